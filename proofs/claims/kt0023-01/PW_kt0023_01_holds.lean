import PyProof.Rows.All
import Wide.All
import OpenK.AllK
import Wide.FinOn
import OpenK.KMake
import KE.KFromBytes
import KE.KUnpack
import Lean
import PySem.Challenge.RW_kt0023_01
open PySem
set_option Elab.async false
set_option maxRecDepth 100000
set_option maxHeartbeats 0
set_option linter.unusedVariables false
namespace Mine
set_option tactic.hygienic false
@[elab_as_elim] theorem ab{α:Sort u}{a:α}{P:α->Prop}{b:α}(h:a=b)(k:P b):P a:=h▸k
@[elab_as_elim] theorem rB{α:Sort u}{a b:α}{P:α->Prop}(h:a=b)(k:P a):P b:=h▸k
@[elab_as_elim] theorem aC{α:Type u}{a:α}{P:α->Prop}{b:α}(h:some a=some b)(k:P a):P b:=Option.some.inj h▸k
@[elab_as_elim] theorem iK{α:Type u}{a:α}{P:α->Prop}{b:α}(h:some a=some b)(k:P b):P a:=Option.some.inj h▸k
theorem nS{α:Type u}{a:α}{G:Prop}(h:none=some a):G:=nomatch h
theorem sN{α:Type u}{a:α}{G:Prop}(h:some a=none):G:=nomatch h
theorem fT{G:Prop}(h:false=true):G:=nomatch h
theorem tF{G:Prop}(h:true=false):G:=nomatch h
@[elab_as_elim] theorem bq{α:Sort u}{c:Prop}{P:α->Prop}[Decidable c]{x y:α}(k1:c->P x)(k2:¬c->P y):P (if c then x else y):=by
 by_cases h:c
 ·rw[if_pos h];exact k1 h
 ·rw[if_neg h];exact k2 h
theorem bR{a b:Prop}{G:Prop}(h:a/\b)(k:a->b->G):G:=k h.1 h.2
theorem bB{a b c:Prop}{G:Prop}(h:a/\b/\c)(k:a->b->c->G):G:=k h.1 h.2.1 h.2.2
theorem jh{a b c d:Prop}{G:Prop}(h:a/\b/\c/\d)(k:a->b->c->d->G):G:=k h.1 h.2.1 h.2.2.1 h.2.2.2
theorem rP{a b c d e:Prop}{G:Prop}(h:a/\b/\c/\d/\e)(k:a->b->c->d->e->G):G:=k h.1 h.2.1 h.2.2.1 h.2.2.2.1 h.2.2.2.2
theorem my{a b c d e f:Prop}{G:Prop}(h:a/\b/\c/\d/\e/\f)(k:a->b->c->d->e->f->G):G:=k h.1 h.2.1 h.2.2.1 h.2.2.2.1 h.2.2.2.2.1 h.2.2.2.2.2
theorem aW{α:Sort u}{a:α->Prop}{G:Prop}(h:∃x,a x)(k:∀x,a x->G):G:=h.elim λx h=>k x h
theorem ah{α:Sort u}{a b:α->Prop}{G:Prop}(h:∃x,a x/\b x)(k:∀x,a x->b x->G):G:=h.elim λx h=>k x h.1 h.2
theorem gV{α:Sort u}{a b c:α->Prop}{G:Prop}(h:∃x,a x/\b x/\c x)(k:∀x,a x->b x->c x->G):G:=h.elim λx h=>k x h.1 h.2.1 h.2.2
theorem gC{α:Sort u}{a b c d:α->Prop}{G:Prop}(h:∃x,a x/\b x/\c x/\d x)(k:∀x,a x->b x->c x->d x->G):G:=h.elim λx h=>k x h.1 h.2.1 h.2.2.1 h.2.2.2
theorem NL{α:Sort u}{a b c d e:α->Prop}{G:Prop}(h:∃x,a x/\b x/\c x/\d x/\e x)(k:∀x,a x->b x->c x->d x->e x->G):G:=h.elim λx h=>k x h.1 h.2.1 h.2.2.1 h.2.2.2.1 h.2.2.2.2
theorem NK{α:Sort u}{a b c d e f:α->Prop}{G:Prop}(h:∃x,a x/\b x/\c x/\d x/\e x/\f x)(k:∀x,a x->b x->c x->d x->e x->f x->G):G:=h.elim λx h=>k x h.1 h.2.1 h.2.2.1 h.2.2.2.1 h.2.2.2.2.1 h.2.2.2.2.2
theorem cY{α:Sort u}{β:Sort v}{a:α->β->Prop}{G:Prop}(h:∃x,∃y,a x y)(k:∀x y,a x y->G):G:=h.elim λx h=>h.elim λy h=>k x y h
theorem cR{α:Sort u}{β:Sort v}{a b:α->β->Prop}{G:Prop}(h:∃x,∃y,a x y/\b x y)(k:∀x y,a x y->b x y->G):G:=h.elim λx h=>h.elim λy h=>k x y h.1 h.2
theorem cw{α:Sort u}{β:Sort v}{a b c:α->β->Prop}{G:Prop}(h:∃x,∃y,a x y/\b x y/\c x y)(k:∀x y,a x y->b x y->c x y->G):G:=h.elim λx h=>h.elim λy h=>k x y h.1 h.2.1 h.2.2
theorem cf{α:Sort u}{β:Sort v}{a b c d:α->β->Prop}{G:Prop}(h:∃x,∃y,a x y/\b x y/\c x y/\d x y)(k:∀x y,a x y->b x y->c x y->d x y->G):G:=h.elim λx h=>h.elim λy h=>k x y h.1 h.2.1 h.2.2.1 h.2.2.2
theorem nM{α:Sort u}{β:Sort v}{a b c d e:α->β->Prop}{G:Prop}(h:∃x,∃y,a x y/\b x y/\c x y/\d x y/\e x y)(k:∀x y,a x y->b x y->c x y->d x y->e x y->G):G:=h.elim λx h=>h.elim λy h=>k x y h.1 h.2.1 h.2.2.1 h.2.2.2.1 h.2.2.2.2
theorem MV{α:Sort u}{β:Sort v}{a b c d e f:α->β->Prop}{G:Prop}(h:∃x,∃y,a x y/\b x y/\c x y/\d x y/\e x y/\f x y)(k:∀x y,a x y->b x y->c x y->d x y->e x y->f x y->G):G:=h.elim λx h=>h.elim λy h=>k x y h.1 h.2.1 h.2.2.1 h.2.2.2.1 h.2.2.2.2.1 h.2.2.2.2.2
theorem MU{α:Sort u}{β:Sort v}{γ:Sort w}{a:α->β->γ->Prop}{G:Prop}(h:∃x,∃y,∃z,a x y z)(k:∀x y z,a x y z->G):G:=h.elim λx h=>h.elim λy h=>h.elim λz h=>k x y z h
theorem fz{α:Sort u}{β:Sort v}{γ:Sort w}{a b:α->β->γ->Prop}{G:Prop}(h:∃x,∃y,∃z,a x y z/\b x y z)(k:∀x y z,a x y z->b x y z->G):G:=h.elim λx h=>h.elim λy h=>h.elim λz h=>k x y z h.1 h.2
theorem lh{α:Sort u}{β:Sort v}{γ:Sort w}{a b c:α->β->γ->Prop}{G:Prop}(h:∃x,∃y,∃z,a x y z/\b x y z/\c x y z)(k:∀x y z,a x y z->b x y z->c x y z->G):G:=h.elim λx h=>h.elim λy h=>h.elim λz h=>k x y z h.1 h.2.1 h.2.2
theorem rO{α:Sort u}{β:Sort v}{γ:Sort w}{a b c d:α->β->γ->Prop}{G:Prop}(h:∃x,∃y,∃z,a x y z/\b x y z/\c x y z/\d x y z)(k:∀x y z,a x y z->b x y z->c x y z->d x y z->G):G:=h.elim λx h=>h.elim λy h=>h.elim λz h=>k x y z h.1 h.2.1 h.2.2.1 h.2.2.2
theorem MT{α:Sort u}{β:Sort v}{γ:Sort w}{a b c d e:α->β->γ->Prop}{G:Prop}(h:∃x,∃y,∃z,a x y z/\b x y z/\c x y z/\d x y z/\e x y z)(k:∀x y z,a x y z->b x y z->c x y z->d x y z->e x y z->G):G:=h.elim λx h=>h.elim λy h=>h.elim λz h=>k x y z h.1 h.2.1 h.2.2.1 h.2.2.2.1 h.2.2.2.2
theorem nK{α:Sort u}{β:Sort v}{γ:Sort w}{δ:Sort x}{a:α->β->γ->δ->Prop}{G:Prop}(h:∃x,∃y,∃z,∃w,a x y z w)(k:∀x y z w,a x y z w->G):G:=h.elim λx h=>h.elim λy h=>h.elim λz h=>h.elim λw h=>k x y z w h
theorem NJ{α:Sort u}{β:Sort v}{γ:Sort w}{δ:Sort x}{a b:α->β->γ->δ->Prop}{G:Prop}(h:∃x,∃y,∃z,∃w,a x y z w/\b x y z w)(k:∀x y z w,a x y z w->b x y z w->G):G:=h.elim λx h=>h.elim λy h=>h.elim λz h=>h.elim λw h=>k x y z w h.1 h.2
theorem NI{α:Sort u}{β:Sort v}{γ:Sort w}{δ:Sort x}{a b c:α->β->γ->δ->Prop}{G:Prop}(h:∃x,∃y,∃z,∃w,a x y z w/\b x y z w/\c x y z w)(k:∀x y z w,a x y z w->b x y z w->c x y z w->G):G:=h.elim λx h=>h.elim λy h=>h.elim λz h=>h.elim λw h=>k x y z w h.1 h.2.1 h.2.2
theorem jQ{α:Sort u}{β:Sort v}{γ:Sort w}{δ:Sort x}{a b c d:α->β->γ->δ->Prop}{G:Prop}(h:∃x,∃y,∃z,∃w,a x y z w/\b x y z w/\c x y z w/\d x y z w)(k:∀x y z w,a x y z w->b x y z w->c x y z w->d x y z w->G):G:=h.elim λx h=>h.elim λy h=>h.elim λz h=>h.elim λw h=>k x y z w h.1 h.2.1 h.2.2.1 h.2.2.2
theorem rN{α:Sort u}{β:Sort v}{γ:Sort w}{δ:Sort x}{ε:Sort y}{a:α->β->γ->δ->ε->Prop}{G:Prop}(h:∃x,∃y,∃z,∃w,∃s,a x y z w s)(k:∀x y z w s,a x y z w s->G):G:=h.elim λx h=>h.elim λy h=>h.elim λz h=>h.elim λw h=>h.elim λs h=>k x y z w s h
theorem NH{α:Sort u}{β:Sort v}{γ:Sort w}{δ:Sort x}{ε:Sort y}{a b:α->β->γ->δ->ε->Prop}{G:Prop}(h:∃x,∃y,∃z,∃w,∃s,a x y z w s/\b x y z w s)(k:∀x y z w s,a x y z w s->b x y z w s->G):G:=h.elim λx h=>h.elim λy h=>h.elim λz h=>h.elim λw h=>h.elim λs h=>k x y z w s h.1 h.2
theorem MS{α:Sort u}{β:Sort v}{γ:Sort w}{δ:Sort x}{ε:Sort y}{a b c:α->β->γ->δ->ε->Prop}{G:Prop}(h:∃x,∃y,∃z,∃w,∃s,a x y z w s/\b x y z w s/\c x y z w s)(k:∀x y z w s,a x y z w s->b x y z w s->c x y z w s->G):G:=h.elim λx h=>h.elim λy h=>h.elim λz h=>h.elim λw h=>h.elim λs h=>k x y z w s h.1 h.2.1 h.2.2
theorem dQ{a b c:Prop}(h0:a)(h1:b)(h2:c):a/\b/\c:=⟨h0,h1,h2⟩
theorem lj{a b c d:Prop}(h0:a)(h1:b)(h2:c)(h3:d):a/\b/\c/\d:=⟨h0,h1,h2,h3⟩
theorem AW{a b c d e:Prop}(h0:a)(h1:b)(h2:c)(h3:d)(h4:e):a/\b/\c/\d/\e:=⟨h0,h1,h2,h3,h4⟩
theorem AV{a b c d e f:Prop}(h0:a)(h1:b)(h2:c)(h3:d)(h4:e)(h5:f):a/\b/\c/\d/\e/\f:=⟨h0,h1,h2,h3,h4,h5⟩
theorem nP{α:Sort u}{a:α->Prop}(x:α)(h0:a x):∃x,a x:=⟨x,h0⟩
theorem aJ{α:Sort u}{a b:α->Prop}(x:α)(h0:a x)(h1:b x):∃x,a x/\b x:=⟨x,h0,h1⟩
theorem nN{α:Sort u}{a b c:α->Prop}(x:α)(h0:a x)(h1:b x)(h2:c x):∃x,a x/\b x/\c x:=⟨x,h0,h1,h2⟩
theorem pD{α:Sort u}{a b c d:α->Prop}(x:α)(h0:a x)(h1:b x)(h2:c x)(h3:d x):∃x,a x/\b x/\c x/\d x:=⟨x,h0,h1,h2,h3⟩
theorem NT{α:Sort u}{a b c d e:α->Prop}(x:α)(h0:a x)(h1:b x)(h2:c x)(h3:d x)(h4:e x):∃x,a x/\b x/\c x/\d x/\e x:=⟨x,h0,h1,h2,h3,h4⟩
theorem NS{α:Sort u}{a b c d e f:α->Prop}(x:α)(h0:a x)(h1:b x)(h2:c x)(h3:d x)(h4:e x)(h5:f x):∃x,a x/\b x/\c x/\d x/\e x/\f x:=⟨x,h0,h1,h2,h3,h4,h5⟩
theorem M3{α:Sort u}{β:Sort v}{a:α->β->Prop}(x:α)(y:β)(h0:a x y):∃x,∃y,a x y:=⟨x,y,h0⟩
theorem mB{α:Sort u}{β:Sort v}{a b:α->β->Prop}(x:α)(y:β)(h0:a x y)(h1:b x y):∃x,∃y,a x y/\b x y:=⟨x,y,h0,h1⟩
theorem mA{α:Sort u}{β:Sort v}{a b c:α->β->Prop}(x:α)(y:β)(h0:a x y)(h1:b x y)(h2:c x y):∃x,∃y,a x y/\b x y/\c x y:=⟨x,y,h0,h1,h2⟩
theorem il{α:Sort u}{β:Sort v}{a b c d:α->β->Prop}(x:α)(y:β)(h0:a x y)(h1:b x y)(h2:c x y)(h3:d x y):∃x,∃y,a x y/\b x y/\c x y/\d x y:=⟨x,y,h0,h1,h2,h3⟩
theorem pB{α:Sort u}{β:Sort v}{a b c d e:α->β->Prop}(x:α)(y:β)(h0:a x y)(h1:b x y)(h2:c x y)(h3:d x y)(h4:e x y):∃x,∃y,a x y/\b x y/\c x y/\d x y/\e x y:=⟨x,y,h0,h1,h2,h3,h4⟩
theorem li{α:Sort u}{β:Sort v}{a b c d e f:α->β->Prop}(x:α)(y:β)(h0:a x y)(h1:b x y)(h2:c x y)(h3:d x y)(h4:e x y)(h5:f x y):∃x,∃y,a x y/\b x y/\c x y/\d x y/\e x y/\f x y:=⟨x,y,h0,h1,h2,h3,h4,h5⟩
theorem NR{α:Sort u}{β:Sort v}{γ:Sort w}{a:α->β->γ->Prop}(x:α)(y:β)(z:γ)(h0:a x y z):∃x,∃y,∃z,a x y z:=⟨x,y,z,h0⟩
theorem AU{α:Sort u}{β:Sort v}{γ:Sort w}{a b:α->β->γ->Prop}(x:α)(y:β)(z:γ)(h0:a x y z)(h1:b x y z):∃x,∃y,∃z,a x y z/\b x y z:=⟨x,y,z,h0,h1⟩
theorem pA{α:Sort u}{β:Sort v}{γ:Sort w}{a b c:α->β->γ->Prop}(x:α)(y:β)(z:γ)(h0:a x y z)(h1:b x y z)(h2:c x y z):∃x,∃y,∃z,a x y z/\b x y z/\c x y z:=⟨x,y,z,h0,h1,h2⟩
theorem M1{α:Sort u}{β:Sort v}{γ:Sort w}{a b c d:α->β->γ->Prop}(x:α)(y:β)(z:γ)(h0:a x y z)(h1:b x y z)(h2:c x y z)(h3:d x y z):∃x,∃y,∃z,a x y z/\b x y z/\c x y z/\d x y z:=⟨x,y,z,h0,h1,h2,h3⟩
theorem NQ{α:Sort u}{β:Sort v}{γ:Sort w}{a b c d e:α->β->γ->Prop}(x:α)(y:β)(z:γ)(h0:a x y z)(h1:b x y z)(h2:c x y z)(h3:d x y z)(h4:e x y z):∃x,∃y,∃z,a x y z/\b x y z/\c x y z/\d x y z/\e x y z:=⟨x,y,z,h0,h1,h2,h3,h4⟩
theorem M0{α:Sort u}{β:Sort v}{γ:Sort w}{δ:Sort x}{a:α->β->γ->δ->Prop}(x:α)(y:β)(z:γ)(w:δ)(h0:a x y z w):∃x,∃y,∃z,∃w,a x y z w:=⟨x,y,z,w,h0⟩
theorem NP{α:Sort u}{β:Sort v}{γ:Sort w}{δ:Sort x}{a b:α->β->γ->δ->Prop}(x:α)(y:β)(z:γ)(w:δ)(h0:a x y z w)(h1:b x y z w):∃x,∃y,∃z,∃w,a x y z w/\b x y z w:=⟨x,y,z,w,h0,h1⟩
theorem NO{α:Sort u}{β:Sort v}{γ:Sort w}{δ:Sort x}{a b c:α->β->γ->δ->Prop}(x:α)(y:β)(z:γ)(w:δ)(h0:a x y z w)(h1:b x y z w)(h2:c x y z w):∃x,∃y,∃z,∃w,a x y z w/\b x y z w/\c x y z w:=⟨x,y,z,w,h0,h1,h2⟩
theorem rS{α:Sort u}{β:Sort v}{γ:Sort w}{δ:Sort x}{a b c d:α->β->γ->δ->Prop}(x:α)(y:β)(z:γ)(w:δ)(h0:a x y z w)(h1:b x y z w)(h2:c x y z w)(h3:d x y z w):∃x,∃y,∃z,∃w,a x y z w/\b x y z w/\c x y z w/\d x y z w:=⟨x,y,z,w,h0,h1,h2,h3⟩
theorem MZ{α:Sort u}{β:Sort v}{γ:Sort w}{δ:Sort x}{ε:Sort y}{a:α->β->γ->δ->ε->Prop}(x:α)(y:β)(z:γ)(w:δ)(s:ε)(h0:a x y z w s):∃x,∃y,∃z,∃w,∃s,a x y z w s:=⟨x,y,z,w,s,h0⟩
theorem NN{α:Sort u}{β:Sort v}{γ:Sort w}{δ:Sort x}{ε:Sort y}{a b:α->β->γ->δ->ε->Prop}(x:α)(y:β)(z:γ)(w:δ)(s:ε)(h0:a x y z w s)(h1:b x y z w s):∃x,∃y,∃z,∃w,∃s,a x y z w s/\b x y z w s:=⟨x,y,z,w,s,h0,h1⟩
theorem MY{α:Sort u}{β:Sort v}{γ:Sort w}{δ:Sort x}{ε:Sort y}{a b c:α->β->γ->δ->ε->Prop}(x:α)(y:β)(z:γ)(w:δ)(s:ε)(h0:a x y z w s)(h1:b x y z w s)(h2:c x y z w s):∃x,∃y,∃z,∃w,∃s,a x y z w s/\b x y z w s/\c x y z w s:=⟨x,y,z,w,s,h0,h1,h2⟩
theorem bE{α β:Type}{o:Option α}{f:α->Option β}{b:β}{G:Prop}(h:o.bind f=some b)(k:∀a,o=some a->f a=some b->G):G:=(Option.bind_eq_some_iff.mp h).elim λa h=>k a h.1 h.2
@[elab_as_elim] theorem mE{α β:Type}{o:Option α}{f:α->β}{P:β->Prop}{b:β}(h:o.map f=some b)(k:∀a,o=some a->P (f a)):P b:=(Option.map_eq_some_iff.mp h).elim λa h=>h.2▸k a h.1
@[elab_as_elim] theorem iE{β:Type}{c:Prop}{_:Decidable c}{a:β}{P:β->Prop}{b:β}(h:(if c then some a else none)=some b)(k:c->P a):P b:=by
 by_cases q:c
 ·rw[if_pos q]at h;exact aC h (k q)
 ·rw[if_neg q]at h;exact nS h
theorem iO{β:Type}{c:Prop}{_:Decidable c}{o:Option β}{b:β}{G:Prop}(h:(if c then o else none)=some b)(k:c->o=some b->G):G:=by
 by_cases q:c
 ·rw[if_pos q]at h;exact k q h
 ·rw[if_neg q]at h;exact nS h
theorem a2{a b:Bool}{G:Prop}(h:(a&&b)=true)(k:a=true->b=true->G):G:=(Bool.and_eq_true_iff.mp h).elim k
theorem a3{a b c:Bool}{G:Prop}(h:(a&&b&&c)=true)(k:a=true->b=true->c=true->G):G:=a2 h λh=>a2 h k
theorem a4{a b c d:Bool}{G:Prop}(h:(a&&b&&c&&d)=true)(k:a=true->b=true->c=true->d=true->G):G:=a2 h λh=>a3 h k
theorem a5{a b c d e:Bool}{G:Prop}(h:(a&&b&&c&&d&&e)=true)(k:a=true->b=true->c=true->d=true->e=true->G):G:=a2 h λh=>a4 h k
theorem a6{a b c d e f:Bool}{G:Prop}(h:(a&&b&&c&&d&&e&&f)=true)(k:a=true->b=true->c=true->d=true->e=true->f=true->G):G:=a2 h λh=>a5 h k
theorem a7{a b c d e f g:Bool}{G:Prop}(h:(a&&b&&c&&d&&e&&f&&g)=true)(k:a=true->b=true->c=true->d=true->e=true->f=true->g=true->G):G:=a2 h λh=>a6 h k
theorem n1{a:Bool}(h:(!a)=true):a=false:=(Bool.not_eq_true' a).mp h
theorem iP{β:Type}{c:Prop}{_:Decidable c}{a b r:β}(q:c)(h:(if c then a else b)=r):a=r:=(if_pos q).symm.trans h
theorem iF{β:Type}{c:Bool}{a b r:β}(q:c=false)(h:(if c=true then a else b)=r):b=r:=(if_neg (q▸Bool.false_ne_true)).symm.trans h
theorem fB{α β:Type}{o:Option α}{f:α->Option β}{a:α}{r:Option β}(h:o=some a)(k:f a=r):o.bind f=r:=(congrArg (Option.bind · f) h).trans k
theorem fM{α β:Type}{o:Option α}{f:α->β}{a:α}(h:o=some a):o.map f=some (f a):=congrArg (Option.map f) h
theorem fL{α:Type}{o p:Option α}{a:α}(h:o=some a):o.or p=some a:=congrArg (Option.or · p) h
theorem fR{α:Type}{o p r:Option α}(h:o=none)(k:p=r):o.or p=r:=(congrArg (Option.or · p) h).trans k
theorem fN{α β:Type}{o:Option α}{f:α->Option β}(h:o=none):o.bind f=none:=congrArg (Option.bind · f) h
theorem NU{α β:Type}{o:Option α}{f:α->Option β}(k:∀a,f a=none):o.bind f=none:=by
 cases o with
 | none=>rfl
 | some a=>exact k a
theorem ca{β:Type}{o p:Option β}{b:β}{G:Prop}(h:o.or p=some b)(k:o=some b->G)(l:p=some b->G):G:=(Option.or_eq_some_iff.mp h).elim k λh=>l h.2
noncomputable def gz{α β γ:Type}(f:α->Option β)(k:β->β->Option γ)(a b:α):Option γ:=(f a).bind λx=>(f b).bind λy=>k x y
theorem gn{α β γ:Type}{f:α->Option β}{k:β->β->Option γ}{a b:α}{r:γ}{G:Prop}(h:gz f k a b=some r)(c:∀x y,f a=some x->f b=some y->k x y=some r->G):G:=bE h λx h1 h=>bE h λy h2 h=>c x y h1 h2 h
set_option genInjectivity false in
set_option genSizeOf false in
structure Pr(α:Type) where
 S:Type
 m:α->Option S
 b:S->α
 ok:∀{a s},m a=some s->b s=a
noncomputable def H{α:Type}:Pr α:=⟨α,some,id,λe=>(Option.some.inj e).symm⟩
noncomputable def F{α:Type}(f:α->Bool):Pr α:=⟨{a // f a=true},λa=>if h:f a=true then some ⟨a,h⟩else none,(·.1),λ{a s} e=>by
 by_cases h:f a=true
 ·rw[dif_pos h]at e;exact Option.some.inj e▸rfl
 ·rw[dif_neg h]at e;exact nS e⟩
noncomputable def L{α:Type}[BEq α][LawfulBEq α](a:α):Pr α:=⟨Unit,λx=>if(a==x)=true then some ()else none,λ_=>a,λ{x s} e=>by
 by_cases h:(a==x)=true
 ·exact eq_of_beq h
 ·rw[if_neg h]at e;exact nS e⟩
noncomputable def cn{α β:Type}(ix:α->Nat)(i:Nat)(g:(a:α)->ix a=i->β)(mk:β->α)(ok:∀a q,mk (g a q)=a)(p:Pr β):Pr α:=⟨p.S,λa=>if h:ix a=i then p.m (g a h)else none,λs=>mk (p.b s),λ{a s} e=>by
 by_cases h:ix a=i
 ·rw[dif_pos h]at e;rw[p.ok e,ok]
 ·rw[dif_neg h]at e;exact nS e⟩
noncomputable def P2{α β:Type}(p:Pr α)(q:Pr β):Pr (α×β):=⟨p.S×q.S,λx=>(p.m x.1).bind λs=>(q.m x.2).map λt=>(s,t),λs=>(p.b s.1,q.b s.2),λ{x s} e=>bE e λu h1 e=>mE (P:=λs=>(p.b s.1,q.b s.2)=x) e λv h2=>by rw[p.ok h1,q.ok h2]⟩
noncomputable def W{α:Type}(p:Pr α)(k:p.S->Bool):Pr α:=⟨{s // k s=true},λa=>(p.m a).bind λs=>if h:k s=true then some ⟨s,h⟩else none,λs=>p.b s.1,λ{a s} e=>bE e λu h1 e=>by
 by_cases h:k u=true
 ·rw[dif_pos h]at e;exact aC e (p.ok h1)
 ·rw[dif_neg h]at e;exact nS e⟩
noncomputable def nl{α:Type}:Pr (List α):=cn List.ctorIdx 0 (λ_ _=>()) (λ_=>[]) (λa q=>List.nil.elim (motive:=λa=>[]=a) a q rfl) H
noncomputable def cs{α:Type}(p:Pr α)(q:Pr (List α)):Pr (List α):=cn List.ctorIdx 1 (λa q=>List.cons.elim a q λx r=>(x,r)) (λx=>x.1::x.2) (λa q=>List.cons.elim (motive:=λa=>∀q,(List.cons.elim (motive:=λ_=>_×_) a q λx r=>(x,r)).1::(List.cons.elim (motive:=λ_=>_×_) a q λx r=>(x,r)).2=a) a q (λ_ _ _=>rfl) q) (P2 p q)
noncomputable abbrev l1{α:Type}(p:Pr α):Pr (List α):=cs p nl
noncomputable abbrev l2{α:Type}(p q:Pr α):Pr (List α):=cs p (l1 q)
noncomputable abbrev l3{α:Type}(p q r:Pr α):Pr (List α):=cs p (l2 q r)
noncomputable def nn{α:Type}:Pr (Option α):=cn Option.ctorIdx 0 (λ_ _=>()) (λ_=>none) (λa q=>Option.none.elim (motive:=λa=>none=a) a q rfl) H
noncomputable def sm{α:Type}(p:Pr α):Pr (Option α):=cn Option.ctorIdx 1 (λa q=>Option.some.elim a q λx=>x) some (λa q=>Option.some.elim (motive:=λa=>∀q,some (Option.some.elim (motive:=λ_=>_) a q λx=>x)=a) a q (λ_ _=>rfl) q) p
noncomputable def cm{α:Type}(p:Pr α)(a:α):Bool:=(p.m a).isSome
@[elab_as_elim] theorem aQ{α:Type}{p:Pr α}{G:α->Prop}{a:α}(h:cm p a=true)(c:∀s,G (p.b s)):G a:=by
 unfold cm at h
 cases e:p.m a with
 | none=>rw[e]at h;exact fT h
 | some s=>exact p.ok e▸c s
noncomputable def allM{α:Type}(p:Pr α)(l:List α):Option (List p.S):=l.rec (some []) λa _ ih=>(p.m a).bind λs=>ih.map (s::·)
theorem za{α:Type}{p:Pr α}{l:List α}{r:List p.S}(h:allM p l=some r):l=r.map p.b:=by
 induction l generalizing r with
 | nil=>exact aC h rfl
 | cons a l ih=>exact bE h λs h1 h=>mE h λx h2=>(congrArg (·::l) (p.ok h1).symm).trans (congrArg (p.b s::·) (ih h2))
theorem yq{α γ:Type}{p:Pr α}{f:γ->α}{g:γ->p.S}(l:List γ)(k:∀x,p.m (f x)=some (g x)):allM p (l.map f)=some (l.map g):=by
 induction l with
 | nil=>rfl
 | cons x r ih=>
  refine(?_:((p.m (f x)).bind λs=>(allM p (r.map f)).map (s::·))=_)
  rw[k x,ih];rfl
set_option tactic.hygienic true
theorem v6(h:Heap)(a:Addr)(f:Obj->Obj):(h.update a f).objs.size=h.objs.size:=(Heap.SameBut.update (h:=h) (a:=a) (f:=f)).1
theorem sS{M:Model}{Z:Ctx}{p:Pos}{t:Sem Fin}{fs:List Frame}{s s':Shared}{e:End}(h:Runs M Z p t fs s e s'):s.heap.objs.size<=s'.heap.objs.size:=by
 induction h<;>(try simp only[Shared.setGen,Heap.size_push,v6]at *)<;>lia
theorem BV{M:Model}{Z:Ctx}{p:Pos}{s s':Shared}{r:Result}(h:Returns M Z p s r s'):s.heap.objs.size<=s'.heap.objs.size:=sS h
theorem CX{M:Model}{Z:Ctx}{p:Pos}{g:Nat}{r:Resume}{s s':Shared}{res:GenResult}(h:Wakes M Z p g r s res s'):s.heap.objs.size<=s'.heap.objs.size:=by
 unfold Wakes at h
 split at h
 ·exact h.elim
 ·split at h
  ·obtain⟨e₁,aD,hr,_,_,rfl⟩:=h;exact(sS hr:(s.setGen g .running).heap.objs.size<=aD.heap.objs.size)
  ·refine ab h.2 ?_;exact Nat.le_refl _
  ·refine ab h.2 ?_;exact Nat.le_refl _
 ·refine cf h λe₁ aD hr _ _ ob5=>?_;refine ab ob5 ?_;exact(sS hr:(s.setGen g .running).heap.objs.size<=aD.heap.objs.size)
 ·rw[h.2];exact Nat.le_refl _
 ·rw[h.2];exact Nat.le_refl _
theorem Hf{α:Type}(M:Model)(Z:Ctx)(n:Nat)(t:Sem α):∀(Q:α->Pos->Shared->Prop) (E:Value->Pos->Shared->Prop) (p:Pos) (s:Shared),n<=s.heap.objs.size->Sem.wp M Z t Q E p s->
  Sem.wp M Z t (λa p' s'=>n<=s'.heap.objs.size/\Q a p' s') (λe p' s'=>n<=s'.heap.objs.size/\E e p' s') p s:=by
 induction t with
 | pure a=>intro Q E p s hn h;exact⟨hn,h⟩
 | raise e=>intro Q E p s hn h;exact⟨hn,h⟩
 | unsupported _=>intro Q E p s _ h;exact h
 | finish _=>intro Q E p s _ h;exact h
 | rule _ k ih=>intro Q E p s hn h;exact ih () Q E p s hn h
 | «at» p' k ih=>intro Q E p s hn h;exact ih () Q E p' s hn h
 | load a _ k ih=>intro Q E p s hn h;refine ah h λo ho h=>?_;exact aJ o ho (ih o Q E p s hn h)
 | update a _ f k ih=>intro Q E p s hn h;exact⟨h.1,ih () Q E p _ (by rw[v6];exact hn) h.2⟩
 | loadIfAlive a k ih=>intro Q E p s hn h;exact ih _ Q E p s hn h
 | point _ k ih=>intro Q E p s hn h;exact ih () Q E p s hn h
 | register _ _=>intro Q E p s _ h;exact h
 | alloc o k ih=>intro Q E p s hn h;exact ih _ Q E p _ (by rw[Heap.size_push];lia) h
 | fresh k ih=>intro Q E p s hn h;exact ih _ Q E p _ hn h
 | ask k ih=>intro Q E p s hn h;exact ih _ Q E p s hn h
 | choose src m k ih=>intro Q E p s hn h;exact⟨h.1,ih _ Q E p _ hn h.2⟩
 | os q _ k ih=>intro Q E p s hn h;exact ih _ Q E p _ hn h
 | call c hd _ _ k ih=>intro Q E p s hn h;refine cR h λr s' hr h=>?_;exact mB r s' hr (ih r Q E p s' (Nat.le_trans hn (BV hr)) h)
 | handled own k ih=>intro Q E p s hn h;exact ih _ Q E p s hn h
 | genState g k ih=>intro Q E p s hn h;refine ah h λst hs h=>?_;exact aJ st hs (ih _ Q E p s hn h)
 | newGen c k ih=>intro Q E p s hn h;exact ih _ Q E p _ hn h
 | resume g r _ k ih=>intro Q E p s hn h;refine cR h λres s' hw h=>?_;exact mB res s' hw (ih res Q E p s' (Nat.le_trans hn (CX hw)) h)
 | yield _ _ _ _=>intro Q E p s _ h;exact h
 | stack k ih=>intro Q E p s hn h;exact ih _ Q E p s hn h
 | fork _ _=>intro Q E p s _ h;exact h
 | thread k ih=>intro Q E p s hn h;exact ih _ Q E p s hn h
 | await _ _ _ _ _=>intro Q E p s _ h;exact h
theorem iw{α:Type}{M:Model}{A:Around}{s:Shared}{t:Sem α}{Q:α->Shared->Prop}{E:Value->Shared->Prop}
  (h:wpAny M A t (λa s'=>s.heap.objs.size<=s'.heap.objs.size/\s.toks<=s'.toks->Q a s') (λe s'=>s.heap.objs.size<=s'.heap.objs.size/\s.toks<=s'.toks->E e s') s):wpAny M A t Q E s:=
 wpAny_with_toks (Nat.le_refl _)<|wpAny_mono (Q:=λa s'=>s.heap.objs.size<=s'.heap.objs.size/\(s.heap.objs.size<=s'.heap.objs.size/\s.toks<=s'.toks->Q a s')) (E:=λe s'=>s.heap.objs.size<=s'.heap.objs.size/\(s.heap.objs.size<=s'.heap.objs.size/\s.toks<=s'.toks->E e s'))
  (λZ p hΓ=>Hf M Z _ t _ _ p s (Nat.le_refl _) (h Z p hΓ)) (λ_ _ x k=>x.2 ⟨x.1,k⟩) (λ_ _ x k=>x.2 ⟨x.1,k⟩)
open PySem.W PySem.Calls PyProof.Rows PySem.Challenge
noncomputable abbrev pg:Program:=pw_kt0023_01
noncomputable def aA(i:Nat):Stmt:=(pg.main.body[i]?).getD (.Pass ⟨0,0,0,0⟩)
noncomputable def rA:Stmt->Arguments
 | .FunctionDef _ a _ _ _ _ _ _ _ _=>a
 | _=>⟨[],[],none,[],[],none,[]⟩
noncomputable def bu:Stmt->List Stmt
 | .FunctionDef _ _ b _ _ _ _ _ _ _=>b
 | _=>[]
noncomputable def cU:Stmt->Scope
 | .FunctionDef _ _ _ _ _ _ s _ _ _=>s
 | _=>{kind:=.function,names:=[],isGenerator:=false,isCoroutine:=false,more:=[]}
noncomputable def Mj:Stmt->List Stmt
 | .ClassDef _ _ _ b _ _ _ _ _ _ _=>b
 | _=>[]
noncomputable def meth(i:Nat):Stmt:=((Mj (aA 27))[i]?).getD (.Pass ⟨0,0,0,0⟩)
noncomputable def eO(name qual:Str)(st:Stmt)(dV kV pm:Value)(cd:Addr):Obj:=
 {cls:=.type "function",data:=.func {name:=name,qualname:=qual,params:=rA st,body:=.stmts (bu st),scope:=cU st,globals:=3,closure:=[],defaults:=dV,kwdefaults:=kV,doc:=.none,pyModule:=pm,annotations:=none,code:=.ref cd,closureTuple:=.none,builtins:=0}}
noncomputable def de(P:Params)(k:Str)(t:Tok)(v:Value):DictEntry:=⟨PyData.keyHash P k,.str k t,v⟩
noncomputable def rL:Value:=.str "cpy313.fnmatch" 493
noncomputable def mx:Value:=.str "binascii" 527
noncomputable def nJ:Value:=.str "cpy313.trace" 637
noncomputable def eM:Value:=.str "law_kt0023_01" 679
noncomputable def spec:List Nat:=[40,41,91,93,123,125,63,42,43,45,124,94,36,92,46,38,126,35,32,9,10,13,11,12]
noncomputable def kJ:List DictEntry:=spec.zipIdx.map λ(c,i)=>⟨(c:Int),.int c (341+6 * i),.str ⟨#[92,c]⟩ (345+6 * i)⟩
noncomputable def un:List Int:=[14,14,4,1,1,9,0,64,0,1342177280,0,0,0,0,0,17,0,13,11,9,0,64,0,1342177280,0,0,0,0,0,17,1,1]
noncomputable def jS:Array UInt8:=#[65,66,67,68,69,70,71,72,73,74,75,76,77,78,79,80,81,82,83,84,85,86,87,88,89,90,97,98,99,
  100,101,102,103,104,105,106,107,108,109,110,111,112,113,114,115,116,117,118,119,120,121,122,
  48,49,50,51,52,53,54,55,56,57,43,47]
noncomputable def K(P:Params):Frag:=[
 (4,{cls:=.type "module",dict:=some 0,data:=.plain}),
 (42,{cls:=.type "tuple",data:=.seq (un.map λi=>Value.int i 0).toArray}),
 (43,{cls:=.type "re.Pattern",data:=.fields #[.str "([&~|])" 292,.int 32 327,.int 1 0,.none,.none,.ref 42,.int 0 0]}),
 (50,eO "translate" "translate" (aA 4) .none .none (.str "cpy313.fnmatch" 289) 49),
 (52,{cls:=.type "dict",data:=.dict kJ.toArray 24}),
 (62,eO "escape" "escape" (aA 7) .none .none (.str "re" 338) 61),
 (68,{cls:=.type "code",data:=.fields #[.str "_translate" 495,.str "_translate" 496,.str "/claim/cut.py" 497,.int 20 0,.int 3 0,.int 0 0,.int 0 0,.int 3 0,.ref 63,.bool true,.int 276 0,.ref 64,.none,.ref 65,.ref 66,.ref 67,.int 511 0,.int 20 0,.str "/claim/cut.py" 512]}),
 (69,eO "_translate" "_translate" (aA 9) .none .none rL 68),
 (76,eO "_join_translated_parts" "_join_translated_parts" (aA 10) .none .none rL 75),
 (83,eO "_buffer" "_buffer" (aA 12) .none .none mx 82),
 (90,eO "_truth" "_truth" (aA 13) .none .none mx 89),
 (91,{cls:=.type "dict",data:=.dict #[de P "newline" 547 (.bool true)] 1}),
 (98,eO "b2a_base64" "b2a_base64" (aA 15) .none (.ref 91) mx 97),
 (99,{cls:=.type "tuple",data:=.seq #[.none]}),
 (106,eO "b64encode" "b64encode" (aA 17) (.ref 99) .none (.str "cpy313.base64" 561) 105),
 (156,{cls:=.type "tuple",data:=.seq #[.none,.none]}),
 (161,eO "__init__" "_Ignore.__init__" (meth 0) (.ref 156) .none nJ 160),
 (168,eO "names" "_Ignore.names" (meth 1) .none .none nJ 167),
 (170,{cls:=.type "dict",data:=.dict #[de P "__module__" 646 nJ,de P "__firstlineno__" 650 (.int 221 649),de P "__init__" 656 (.ref 161),de P "names" 667 (.ref 168),de P "__static_attributes__" 671 (.ref 169),de P "__dict__" 673 (.ref 172),de P "__weakref__" 675 (.ref 173),de P "__doc__" 676 .none] 4}),
 (171,{cls:=.type "type",data:=.cls {name:="_Ignore",bases:=[.type "object"],mro:=[.ref 171,.type "object"],ns:=170,qualname:="_Ignore"},slots:=#[none,none,some (.str "_Ignore" 639),some (.str "_Ignore" 647),some (.builtin "object.__new__"),some (.bool true)]}),
 (180,eO "_law_rows" "_law_rows" (aA 29) .none .none eM 179),
 (185,eO "_law_signs" "_law_signs" (aA 30) .none .none eM 184),
 (190,eO "_law_pattern" "_law_pattern" (aA 31) .none .none eM 189),
 (197,eO "_law_sign" "_law_sign" (aA 32) .none .none eM 196),
 (204,eO "_law_items" "_law_items" (aA 33) .none .none eM 203),
 (209,eO "_law_takes" "_law_takes" (aA 34) .none .none eM 208),
 (214,eO "_law_doubled" "_law_doubled" (aA 35) .none .none eM 213),
 (219,eO "_law_due" "_law_due" (aA 36) .none .none eM 218),
 (224,eO "law" "law" (aA 37) .none .none eM 223)]
noncomputable def oL:List Addr:=[4,42,43,50,52,62,68,69,76,83,90,91,98,99,106,156,161,168,170,171,180,185,190,197,204,209,214,219,224]
theorem qa(P:Params):oL=(K P).map (·.1):=rfl
noncomputable def kj:List (Addr×Str):=[(49,"translate"),(61,"escape"),(68,"_translate"),(75,"_join_translated_parts"),(82,"_buffer"),(89,"_truth"),(97,"b2a_base64"),(105,"b64encode"),(160,"_Ignore.__init__"),(167,"_Ignore.names"),(179,"_law_rows"),(184,"_law_signs"),(189,"_law_pattern"),(196,"_law_sign"),(203,"_law_items"),(208,"_law_takes"),(213,"_law_doubled"),(218,"_law_due"),(223,"law")]
noncomputable def zl:Option Value->Option Str
 | some (.str x _)=>some x
 | _=>none
noncomputable def yT:Data->Option Str
 | .fields vs=>zl vs[1]?
 | _=>none
noncomputable def iy(h:Heap)(c:Addr):Option Str:=(h.get? c).bind λo=>yT o.data
noncomputable def l7:List (Str×Value):=[("_twin_re_1",.ref 43),("translate",.ref 50),("_special_chars_map",.ref 52),("escape",.ref 62),("_translate",.ref 69),("_join_translated_parts",.ref 76),("_buffer",.ref 83),("_truth",.ref 90),("_B64",.bytes jS 545),("b2a_base64",.ref 98),("b64encode",.ref 106),("sep",.str "/" 572),("_Ignore",.ref 171),("_law_rows",.ref 180),("_law_signs",.ref 185),("_law_pattern",.ref 190),("_law_sign",.ref 197),("_law_items",.ref 204),("_law_takes",.ref 209),("_law_doubled",.ref 214),("_law_due",.ref 219),("law",.ref 224),("__builtins__",.ref 4)]
noncomputable def ku:List Str:=["len","max","range","sum","bytes","list","type","isinstance","str","object","set","int","bool","float","complex","bytearray","tuple","dict","frozenset","repr","TypeError"]
noncomputable def rM(s:Shared):List (Option Obj)×List (Option Str)×List (Option Value)×List (Option Value)×Option Obj×Bool:=
 (oL.map s.heap.get?,kj.map (λp=>iy s.heap p.1),l7.map (λp=>s.heap.nsMap mainGlobals p.1),ku.map (s.heap.nsMap mainGlobals),s.heap.get? 64,s.heap.isNs mainGlobals)
noncomputable def val(w:World):List (Option Obj)×List (Option Str)×List (Option Value)×List (Option Value)×Option Obj×Bool:=
 ((K w.params).map (λp=>some p.2),kj.map (λp=>some p.2),l7.map (λp=>some p.2),ku.map (λ_=>none),some {cls:=.none,data:=.fields #[]},true)
noncomputable def q:Program:=view pg [0,37]
noncomputable def loose:List Str:=["_wall","_twin_re_1","translate","_special_chars_map","escape","_translate","_join_translated_parts","_buffer","_truth","_B64","b2a_base64","b64encode","sep","_kind","_c_path","_shelf_fresh","_splitroot","_normpath","normpath","_Ignore","_law_rows","_law_signs","_law_pattern","_law_sign","_law_items","_law_takes","_law_doubled","_law_due"]
theorem Mt:rw_kt0023_01.wellSaid=true:=by
 rw[Fast.te9446332074065402090];kernel_rfl
noncomputable def Lk(w:World):Prop:=(openEnds treeTable pg w 5000).map (λs=>(openSeen q loose (importedModules pg.main.body) (λ_=>true) true s,rM s))=some (openGood q loose,val w)
theorem Na(w:World):Lk ((w.withFollow "special-get-raises" false).withFollow "comprehension-iter-twice" false):=by
 unfold Lk openEnds topFrom fencedOpening
 rw[Fast.te10274390034422433532,Fast.te14364793385576792824,Fast.te1435165496053646825,Fast.te14082659384304107361,Fast.te14289696077712309145,Fast.te4187177175401517315]
 kernel_rfl
theorem M'(w:World):Lk ((w.withFollow "special-get-raises" true).withFollow "comprehension-iter-twice" false):=by
 unfold Lk openEnds topFrom fencedOpening
 rw[Fast.te10274390034422433532,Fast.te14364793385576792824,Fast.te1435165496053646825,Fast.te14082659384304107361,Fast.te14289696077712309145,Fast.te4187177175401517315]
 kernel_rfl
theorem M9(w:World):Lk ((w.withFollow "special-get-raises" false).withFollow "comprehension-iter-twice" true):=by
 unfold Lk openEnds topFrom fencedOpening
 rw[Fast.te10274390034422433532,Fast.te14364793385576792824,Fast.te1435165496053646825,Fast.te14082659384304107361,Fast.te14289696077712309145,Fast.te4187177175401517315]
 kernel_rfl
theorem M8(w:World):Lk ((w.withFollow "special-get-raises" true).withFollow "comprehension-iter-twice" true):=by
 unfold Lk openEnds topFrom fencedOpening
 rw[Fast.te10274390034422433532,Fast.te14364793385576792824,Fast.te1435165496053646825,Fast.te14082659384304107361,Fast.te14289696077712309145,Fast.te4187177175401517315]
 kernel_rfl
theorem left:LeftO pg q loose (λ_=>true) rM val 5000:=λw=>
 byRow2 "comprehension-iter-twice" (P:=Lk)
  (byRow2 "special-get-raises" (P:=λw=>Lk (w.withFollow "comprehension-iter-twice" false)) Na M')
  (byRow2 "special-get-raises" (P:=λw=>Lk (w.withFollow "comprehension-iter-twice" true)) M9 M8) w
noncomputable def mv(w:World)(h:Heap):Prop:=
 (K w.params).In h/\(∀p∈kj,iy h p.1=some p.2)/\∃mg,h.Ns mainGlobals mg/\(∀p∈l7,mg p.1=some p.2)/\(∀x∈ku,mg x=none)
noncomputable def NF:DefRec:=⟨"law",rA (aA 37),bu (aA 37),cU (aA 37),⟨0,0,0,0⟩⟩
theorem HP(w:World)(s:Shared)(e:rM s=val w):mv w s.heap:=by
 have e1:=congrArg Prod.fst e
 have e2:=congrArg (λx=>x.2.1) e
 have e3:=congrArg (λx=>x.2.2.1) e
 have hg:s.heap.isNs mainGlobals=true:=congrArg (λx=>x.2.2.2.2.2) e
 have e4:=congrArg (λx=>x.2.2.2.1) e
 refine⟨Frag.in_of (qa w.params) e1,?_,s.heap.nsMap mainGlobals,.of_isNs hg,?_,?_⟩
 ·have:kj.map (λp=>iy s.heap p.1)=kj.map (λp=>some p.2):=e2
  exact λp hp=>List.map_inj_left.mp this p hp
 ·have:l7.map (λp=>s.heap.nsMap mainGlobals p.1)=l7.map (λp=>some p.2):=e3
  exact λp hp=>List.map_inj_left.mp this p hp
 ·have:ku.map (s.heap.nsMap mainGlobals)=ku.map (λ_=>none):=e4
  exact λp hp=>List.map_inj_left.mp this p hp
theorem K2:(defOf q "law").map (λx=>(x.1.params,x.1.body,x.1.scope,x.1.name,x.2.length))=some (rA (aA 37),bu (aA 37),cU (aA 37),("law":Str),0):=by kernel_rfl
theorem GC(call:∀d:DefRec,d.name="law"->WalkO q loose (λ_ _=>True) (λw h=>mv w h/\h.get? 64=some {cls:=.none,data:=.fields #[]}) rw_kt0023_01.row.toRowW d [] λf vs=>PySem.call f vs):rw_kt0023_01.Holds:=by
 refine holds_law Mt λsaid'=>?_
 have hd:=K2
 obtain⟨⟨d,kw⟩,hd1,hd2⟩:=Option.map_eq_some_iff.mp hd
 simp only[Prod.mk.injEq]at hd2
 obtain⟨e1,e2,e3,e4,e5⟩:=hd2
 have e6:kw=[]:=List.length_eq_zero_iff.mp e5
 subst e6
 refine holds_open (q:=q) (loose:=loose) (Xt:=λ_=>true) (XP:=λ_ _=>True) (Yf:=rM) (Ya:=val) (YP:=λw h=>mv w h/\h.get? 64=some {cls:=.none,data:=.fields #[]}) (N:=5000) left ?h0 ?h00 (λ_ _=>trivial) (λ_ _ _ _ _=>trivial) (d:=d) (kwd:=[]) hd1 ?h2 ?h3 (λs _=>recFacts_nil rfl) rfl said' ?h5 ?h6 ?h7 (call d e4)
 case h0=>
  intro w s e
  exact⟨HP w s e,congrArg (λx=>x.2.2.2.2.1) e⟩
 case h00=>
  rintro w h h' ⟨⟨x1,x2,mg,x3,x4,x5⟩,x6⟩ k
  refine⟨⟨x1.keeps k,λp hp=>?_,mg,x3.keeps k,x4,x5⟩,k _ _ x6⟩
  have:=x2 p hp
  unfold iy at this⊢
  obtain⟨o,ho,e⟩:=Option.bind_eq_some_iff.mp this
  rw[k _ _ ho];exact e
 case h2=>rw[e1,e2,e3];kernel_rfl
 case h3=>rw[e1];kernel_rfl
 case h5=>decide+kernel
 case h6=>exact⟨rfl,rfl,rfl,rfl,rfl,by decide+kernel⟩
 case h7=>w_witness2
structure mu(w:World)(h:Heap):Prop where
 says:mv w h
 top:∃mean mg mb,Top q (looseW q loose) mean mg mb h
theorem mv.keeps{w:World}{h h':Heap}(x:mv w h)(k:∀b o,h.get? b=some o->h'.get? b=some o):mv w h':=by
 obtain⟨x1,x2,mg,x3,x4,x5⟩:=x
 refine⟨x1.keeps k,λp hp=>?_,mg,x3.keeps k,x4,x5⟩
 have:=x2 p hp
 unfold iy at this⊢
 obtain⟨o,ho,e⟩:=Option.bind_eq_some_iff.mp this
 rw[k _ _ ho];exact e
theorem mu.keeps{w:World}{h h':Heap}(x:mu w h)(k:∀b o,h.get? b=some o->h'.get? b=some o):mu w h':=
 ⟨x.says.keeps k,let⟨mean,mg,mb,T⟩:=x.top;⟨mean,mg,mb,T.keeps k⟩⟩
theorem Dq(call:∀(w:World) (s:Shared) (l:Addr) (vs:List Value) (ns:List Int),mu w s.heap->s.heap.get? 64=some {cls:=.none,data:=.fields #[]}->s.gens=#[]->
   s.heap.IsList l vs.toArray->IntsAre vs ns->ns.length<=63->(PyData.list (ns.map PyData.int)).layable0=true->
  wpAny (model pg w) callerA (PySem.call (.ref 224) [.ref l]) (λv s'=>v=.bool true/\OldK s.heap s'.heap/\s'.os=s.os/\AllBare s'.gens) (λ_ _=>False) s):rw_kt0023_01.Holds:=by
 refine GC λd hd=>?_
 intro w dd aD mg mb G Y a o pm cd doc dV kV ho ck gg hD hmg hg args vals as hpre hlay hrd hwl hlo
 wrow_args hpre hlay hrd hwl hlo
 rename_i ns _ _ hL0 _ _ _ _ l vs _ hL _ _ _ hI _ aV _
 have ea:a=224:=by
  obtain⟨_,_,mg',x3,x4,_⟩:=Y.1
  have e1:=x3.eq_nsMap
  have e2:=G.T.g.eq_nsMap
  have e3:=x4 (("law":Str),Value.ref 224) (by decide+kernel)
  rw[hd]at hmg
  dsimp only at e3
  rw[e1,<- e2,hmg]at e3
  exact Value.ref.inj (Option.some.inj e3)
 subst ea
 refine wpAny_mono (call w aD l vs ns ⟨Y.1,_,_,_,G.T⟩ Y.2 hg hL hI (by lia) hL0) ?_ λ_ _ x=>x.elim
 rintro v s' ⟨rfl,h1,h2,h3⟩
 exact⟨.inl ⟨.bool true,.bool true,[],rfl,λ_=>rfl,.bool true,by kernel_rfl,λ_=>⟨.nil,λ_ ha=>nomatch ha⟩⟩,h1,h2,h3⟩
set_option tactic.hygienic false
section
theorem pN{a b:String}(h:Str.ofString a=Str.ofString b):a=b:=by
 rw[Str.ofString_eq_toList,Str.ofString_eq_toList]at h
 have h2:a.toList=b.toList:=by
  refine(List.map_inj_right ?_).mp (by simpa using h:(a.toList.map Char.toNat)=(b.toList.map Char.toNat))
  intro x y e
  exact Char.ext (UInt32.toNat_inj.mp e)
 exact String.toList_injective h2
inductive D where
 | none
 | bool (b:Bool)
 | int (i:Int)
 | str (s:Str)
 | bytes (b:Array UInt8)
 | ty (n:String)
 | bi (n:String)
 | ref (a:Addr)
 | obj
 | raw (l:List D)
 | list (l:List D)
 | tup (l:List D)
noncomputable def Ae:Pr D:=cn D.ctorIdx 0 (λ_ _=>()) (λ_=>.none) (λd q=>D.none.elim (motive_1:=λd=>D.none=d) d q rfl) H
noncomputable def MB:Pr D:=cn D.ctorIdx 8 (λ_ _=>()) (λ_=>.obj) (λd q=>D.obj.elim (motive_1:=λd=>D.obj=d) d q rfl) H
noncomputable def uF:Pr D:=cn D.ctorIdx 1 (λd q=>D.bool.elim (motive_1:=λ_=>Bool) d q λx=>x) (λx=>.bool x) (λd q=>D.bool.elim (motive_1:=λd=>∀q,(λx:Bool=>.bool x) (D.bool.elim (motive_1:=λ_=>Bool) d q λx=>x)=d) d q (λ_ _=>rfl) q) H
noncomputable def ml:Pr D:=cn D.ctorIdx 2 (λd q=>D.int.elim (motive_1:=λ_=>Int) d q λx=>x) (λx=>.int x) (λd q=>D.int.elim (motive_1:=λd=>∀q,(λx:Int=>.int x) (D.int.elim (motive_1:=λ_=>Int) d q λx=>x)=d) d q (λ_ _=>rfl) q) H
noncomputable def pS:Pr D:=cn D.ctorIdx 3 (λd q=>D.str.elim (motive_1:=λ_=>Str) d q λx=>x) (λx=>.str x) (λd q=>D.str.elim (motive_1:=λd=>∀q,(λx:Str=>.str x) (D.str.elim (motive_1:=λ_=>Str) d q λx=>x)=d) d q (λ_ _=>rfl) q) H
noncomputable def vg:Pr D:=cn D.ctorIdx 5 (λd q=>D.ty.elim (motive_1:=λ_=>String) d q λx=>x) (λx=>.ty x) (λd q=>D.ty.elim (motive_1:=λd=>∀q,(λx:String=>.ty x) (D.ty.elim (motive_1:=λ_=>String) d q λx=>x)=d) d q (λ_ _=>rfl) q) H
noncomputable def MA:Pr D:=cn D.ctorIdx 7 (λd q=>D.ref.elim (motive_1:=λ_=>Addr) d q λx=>x) (λx=>.ref x) (λd q=>D.ref.elim (motive_1:=λd=>∀q,(λx:Addr=>.ref x) (D.ref.elim (motive_1:=λ_=>Addr) d q λx=>x)=d) d q (λ_ _=>rfl) q) H
noncomputable def iB:Pr D:=cn D.ctorIdx 10 (λd q=>D.list.elim (motive_1:=λ_=>List D) d q λx=>x) (λx=>.list x) (λd q=>D.list.elim (motive_1:=λd=>∀q,(λx:List D=>.list x) (D.list.elim (motive_1:=λ_=>List D) d q λx=>x)=d) d q (λ_ _=>rfl) q) H
noncomputable def Mz:Pr D:=cn D.ctorIdx 11 (λd q=>D.tup.elim (motive_1:=λ_=>List D) d q λx=>x) (λx=>.tup x) (λd q=>D.tup.elim (motive_1:=λd=>∀q,(λx:List D=>.tup x) (D.tup.elim (motive_1:=λ_=>List D) d q λx=>x)=d) d q (λ_ _=>rfl) q) H
noncomputable def PL(h:Heap)(a:Addr)(xs:Array Value):Prop:=∃n,h.get? a=some {cls:=.type "list",data:=.seq xs n}
theorem PL.isList{h:Heap}{a:Addr}{xs:Array Value}(x:PL h a xs):h.IsList a xs:=aW x λn e=>⟨_,e,rfl,n,rfl⟩
theorem PL.push{h:Heap}{a:Addr}{xs:Array Value}(x:PL h a xs)(o:Obj):PL (h.push o) a xs:=aW x λn e=>⟨n,Heap.get?_push_of_some o e⟩
noncomputable def rF(h:Heap)(O:Addr->Prop)(d:D)(v:Value):Prop:=D.rec (motive_1:=λ_=>Value->Prop) (motive_2:=λ_=>List Value->Prop) (λv=>v=.none) (λb v=>v=.bool b) (λi v=>∃t,v=.int i t) (λx v=>∃t,v=.str x t) (λb v=>∃t,v=.bytes b t) (λn v=>v=.type n) (λn v=>v=.builtin n) (λa v=>v=.ref a) (λv=>∃a,v=.ref a) (λ_ ih v=>∃a vs,v=.ref a/\¬O a/\h.IsList a vs.toArray/\ih vs) (λ_ ih v=>∃a vs,v=.ref a/\¬O a/\PL h a vs.toArray/\ih vs) (λ_ ih v=>∃a vs,v=.ref a/\¬O a/\IsTup h a vs.toArray/\ih vs) (λvs=>vs=[]) (λ_ _ i1 i2 vs=>∃v cu,vs=v::cu/\i1 v/\i2 cu) d v
noncomputable def uR(h:Heap)(O:Addr->Prop)(ds:List D)(vs:List Value):Prop:=D.rec_1 (motive_1:=λ_=>Value->Prop) (motive_2:=λ_=>List Value->Prop) (λv=>v=.none) (λb v=>v=.bool b) (λi v=>∃t,v=.int i t) (λx v=>∃t,v=.str x t) (λb v=>∃t,v=.bytes b t) (λn v=>v=.type n) (λn v=>v=.builtin n) (λa v=>v=.ref a) (λv=>∃a,v=.ref a) (λ_ ih v=>∃a vs,v=.ref a/\¬O a/\h.IsList a vs.toArray/\ih vs) (λ_ ih v=>∃a vs,v=.ref a/\¬O a/\PL h a vs.toArray/\ih vs) (λ_ ih v=>∃a vs,v=.ref a/\¬O a/\IsTup h a vs.toArray/\ih vs) (λvs=>vs=[]) (λ_ _ i1 i2 vs=>∃v cu,vs=v::cu/\i1 v/\i2 cu) ds vs
structure ag(h:Heap)(O:Addr->Prop)(v:Value)(d:D):Prop where
 run:rF h O d v
structure aq(h:Heap)(O:Addr->Prop)(vs:List Value)(ds:List D):Prop where
 run:uR h O ds vs
noncomputable def jN(h h':Heap)(O O':Addr->Prop):Prop:=∀a o xs n,h.get? a=some o->o.data=.seq xs n->¬O a->h'.get? a=some o/\¬O' a
section
variable {h h':Heap} {O O':Addr->Prop} {P:Value->Prop} {v:Value} {vs ws:List Value} {d:D} {ds es:List D} {a:Addr}
theorem ag.none:ag h O .none .none:=⟨rfl⟩
theorem ag.bool(b:Bool):ag h O (.bool b) (.bool b):=⟨rfl⟩
theorem ag.int(i:Int)(t:Tok):ag h O (.int i t) (.int i):=⟨⟨t,rfl⟩⟩
theorem ag.str(x:Str)(t:Tok):ag h O (.str x t) (.str x):=⟨⟨t,rfl⟩⟩
theorem ag.bytes(b:Array UInt8)(t:Tok):ag h O (.bytes b t) (.bytes b):=⟨⟨t,rfl⟩⟩
theorem ag.ty(n:String):ag h O (.type n) (.ty n):=⟨rfl⟩
theorem ag.bi(n:String):ag h O (.builtin n) (.bi n):=⟨rfl⟩
theorem ag.ref(a:Addr):ag h O (.ref a) (.ref a):=⟨rfl⟩
theorem ag.obj(a:Addr):ag h O (.ref a) .obj:=⟨⟨a,rfl⟩⟩
theorem ag.raw(h1:¬O a)(h2:h.IsList a vs.toArray)(h3:aq h O vs ds):ag h O (.ref a) (.raw ds):=⟨⟨a,vs,rfl,h1,h2,h3.run⟩⟩
theorem ag.list(h1:¬O a)(h2:PL h a vs.toArray)(h3:aq h O vs ds):ag h O (.ref a) (.list ds):=⟨⟨a,vs,rfl,h1,h2,h3.run⟩⟩
theorem ag.tup(h1:¬O a)(h2:IsTup h a vs.toArray)(h3:aq h O vs ds):ag h O (.ref a) (.tup ds):=⟨⟨a,vs,rfl,h1,h2,h3.run⟩⟩
theorem aq.nil:aq h O [] []:=⟨rfl⟩
theorem aq.cons(x:ag h O v d)(r:aq h O vs ds):aq h O (v::vs) (d::ds):=⟨⟨v,vs,rfl,x.run,r.run⟩⟩
@[elab_as_elim] theorem ag.bw{x:Str}(r:ag h O v (.str x))(k:∀t,P (.str x t)):P v:=r.run.elim λt e=>ab e (k t)
@[elab_as_elim] theorem ag.bf{i:Int}(r:ag h O v (.int i))(k:∀t,P (.int i t)):P v:=r.run.elim λt e=>ab e (k t)
@[elab_as_elim] theorem ag.j'{b:Array UInt8}(r:ag h O v (.bytes b))(k:∀t,P (.bytes b t)):P v:=r.run.elim λt e=>ab e (k t)
@[elab_as_elim] theorem ag.l9{b:Bool}(r:ag h O v (.bool b))(k:P (.bool b)):P v:=ab r.run k
@[elab_as_elim] theorem ag.uG(r:ag h O v .none)(k:P .none):P v:=ab r.run k
@[elab_as_elim] theorem ag.pr{n:String}(r:ag h O v (.ty n))(k:P (.type n)):P v:=ab r.run k
@[elab_as_elim] theorem ag.NV{n:String}(r:ag h O v (.bi n))(k:P (.builtin n)):P v:=ab r.run k
@[elab_as_elim] theorem ag.rf(r:ag h O v (.ref a))(k:P (.ref a)):P v:=ab r.run k
@[elab_as_elim] theorem ag.objE(r:ag h O v .obj)(k:∀a,P (.ref a)):P v:=r.run.elim λa e=>ab e (k a)
@[elab_as_elim] theorem ag.listE(r:ag h O v (.list ds))(k:∀a vs,¬O a->PL h a vs.toArray->aq h O vs ds->P (.ref a)):P v:=cf r.run λa vs e h1 h2 h3=>ab e (k a vs h1 h2 ⟨h3⟩)
@[elab_as_elim] theorem ag.Mw(r:ag h O v (.raw ds))(k:∀a vs,¬O a->h.IsList a vs.toArray->aq h O vs ds->P (.ref a)):P v:=cf r.run λa vs e h1 h2 h3=>ab e (k a vs h1 h2 ⟨h3⟩)
@[elab_as_elim] theorem ag.Ms(r:ag h O v (.tup ds))(k:∀a vs,¬O a->IsTup h a vs.toArray->aq h O vs ds->P (.ref a)):P v:=cf r.run λa vs e h1 h2 h3=>ab e (k a vs h1 h2 ⟨h3⟩)
@[elab_as_elim] theorem aq.bO{P:List Value->Prop}(r:aq h O vs [])(k:P []):P vs:=ab r.run k
@[elab_as_elim] theorem aq.bn{P:List Value->Prop}(r:aq h O vs (d::ds))(k:∀v cu,ag h O v d->aq h O cu ds->P (v::cu)):P vs:=cw r.run λv cu e h1 h2=>ab e (k v cu ⟨h1⟩ ⟨h2⟩)
theorem ag.mono(H:jN h h' O O')(r:ag h O v d):ag h' O' v d:=
 ⟨D.rec (motive_1:=λd=>∀v,rF h O d v->rF h' O' d v) (motive_2:=λds=>∀vs,uR h O ds vs->uR h' O' ds vs) (λ_ r=>r) (λ_ _ r=>r) (λ_ _ r=>r) (λ_ _ r=>r) (λ_ _ r=>r) (λ_ _ r=>r) (λ_ _ r=>r) (λ_ _ r=>r) (λ_ r=>r)
  (λds ih v r=>cf r λa vs e ho hl r=>Exists.elim hl λo x=>x.2.2.elim λn hd=>(H a o _ n x.1 hd ho).elim λz1 z2=>⟨a,vs,e,z2,⟨o,z1,x.2.1,n,hd⟩,ih vs r⟩)
  (λds ih v r=>cf r λa vs e ho hl r=>Exists.elim hl λn x=>(H a _ _ n x rfl ho).elim λz1 z2=>⟨a,vs,e,z2,⟨n,z1⟩,ih vs r⟩)
  (λds ih v r=>cf r λa vs e ho hl r=>Exists.elim hl λo x=>x.2.2.elim λn hd=>(H a o _ n x.1 hd ho).elim λz1 z2=>⟨a,vs,e,z2,⟨o,z1,x.2.1,n,hd⟩,ih vs r⟩)
  (λ_ r=>r) (λd ds i1 i2 vs r=>cw r λv cu e h1 h2=>⟨v,cu,e,i1 v h1,i2 cu h2⟩) d v r.run⟩
theorem aq.mono(H:jN h h' O O')(r:aq h O vs ds):aq h' O' vs ds:=by
 induction ds generalizing vs with
 | nil=>exact aq.bO r .nil
 | cons d ds ih=>exact aq.bn r λv cu h1 h2=>.cons (h1.mono H) (ih h2)
theorem aq.length(x:aq h O vs ds):vs.length=ds.length:=by
 induction ds generalizing vs with
 | nil=>exact aq.bO x rfl
 | cons d ds ih=>exact aq.bn x λv cu _ r=>congrArg (·+1) (ih r)
theorem aq.append(x:aq h O vs ds)(y:aq h O ws es):aq h O (vs++ws) (ds++es):=by
 induction ds generalizing vs with
 | nil=>exact aq.bO x y
 | cons d ds ih=>exact aq.bn x λv cu a r=>.cons a (ih r)
theorem aq.one(x:ag h O v d):aq h O [v] [d]:=.cons x .nil
theorem aq.get(x:aq h O vs ds){k:Nat}{d:D}(hk:ds[k]? =some d):∃v,vs[k]? =some v/\ag h O v d:=by
 induction ds generalizing vs k with
 | nil=>exact nS hk
 | cons e ds ih=>
  refine aq.bn x λv cu a r=>?_
  cases k with
  | zero=>exact⟨v,rfl,Option.some.inj hk▸a⟩
  | succ k=>exact ih r hk
theorem aq.take(x:aq h O vs ds)(k:Nat):aq h O (vs.take k) (ds.take k):=by
 induction ds generalizing vs k with
 | nil=>exact aq.bO x (List.take_nil.symm▸List.take_nil.symm▸.nil)
 | cons d ds ih=>
  refine aq.bn x λv cu a r=>?_
  cases k with
  | zero=>exact .nil
  | succ k=>exact .cons a (ih r k)
theorem aq.drop(x:aq h O vs ds)(k:Nat):aq h O (vs.drop k) (ds.drop k):=by
 induction ds generalizing vs k with
 | nil=>exact aq.bO x (List.drop_nil.symm▸List.drop_nil.symm▸.nil)
 | cons d ds ih=>
  refine aq.bn x λv cu a r=>?_
  cases k with
  | zero=>exact .cons a r
  | succ k=>exact ih r k
theorem aq.mem(x:aq h O vs ds)(hd:d∈ds):∃v∈vs,ag h O v d:=
 (List.mem_iff_getElem?.mp hd).elim λk hk=>ah (x.get hk) λv e y=>⟨v,List.mem_of_getElem? e,y⟩
theorem aq.snoc(x:aq h O vs ds)(y:ag h O v d):aq h O (vs++[v]) (ds++[d]):=x.append (.one y)
end
noncomputable def Sa:List Addr:=[0,2,3]++oL++kj.map (·.1)
structure gh(w:World)(h:Heap):Prop where
 k:(K w.params).In h
 cd:∀p∈kj,iy h p.1=some p.2
 g:∃mg,h.Ns mainGlobals mg/\(∀p∈l7,mg p.1=some p.2)/\(∀x∈ku,mg x=none)
 b:∃mb,h.Ns builtinsNs mb/\∀x:Str,x≠"__name__"->mb x=bootBuiltins x
 nolimit:h.NoLimit
 nodigits:∃mc,h.Ns cStatics mc/\mc "sys.int_max_str_digits"=none
theorem lX{h h':Heap}{a:Addr}{m:Str->Option Value}(x:h.Ns a m)(k:∀o,h.get? a=some o->h'.get? a=some o):h'.Ns a m:=
 fz x λo es ep e r=>⟨o,es,ep,k _ e,r⟩
theorem MR:builtinsNs∈Sa:=by decide+kernel
theorem AQ:cStatics∈Sa:=by decide+kernel
theorem MQ:mainGlobals∈Sa:=by decide+kernel
theorem MO:∀a∈oL,a∈Sa:=by decide+kernel
theorem MP:∀p∈kj,p.1∈Sa:=by decide+kernel
theorem Gi{l:Frag}{a:Addr}{o:Obj}(e:l.lookup a=some o):a∈l.map (·.1):=by
 induction l with
 | nil=>exact nS e
 | cons p r ih=>
  obtain⟨b,x⟩:=p
  replace e:=Eq.trans (Eq.symm List.lookup_cons) e
  by_cases h:a=b
  ·exact ab h List.mem_cons_self
  ·skip
   rw[(by simpa using h:(a==b)=false)]at e
   exact List.mem_cons_of_mem _ (ih e)
theorem Mm{P:Params}{a:Addr}{o:Obj}(e:(K P).lookup a=some o):a∈oL:=qa P▸Gi e
theorem CJ{h h':Heap}{c:Addr}{x:Str}(e:iy h c=some x)(k:∀o,h.get? c=some o->h'.get? c=some o):iy h' c=some x:=by
 unfold iy at e⊢
 exact ah (Option.bind_eq_some_iff.mp e) λo ho e=>ab (k _ ho) e
theorem gh.keeps{w:World}{h h':Heap}(x:gh w h)(k:∀a∈Sa,∀o,h.get? a=some o->h'.get? a=some o):gh w h' where
 k:=λa o e=>k a (MO a (Mm e)) o (x.k a o e)
 cd:=λp hp=>CJ (x.cd p hp) (k _ (MP p hp))
 g:=gV x.g λmg g1 g2 g3=>⟨mg,lX g1 (k _ MQ),g2,g3⟩
 b:=ah x.b λmb b1 b2=>⟨mb,lX b1 (k _ MR),b2⟩
 nolimit:=ah x.nolimit λmc c1 c2=>⟨mc,lX c1 (k _ AQ),c2⟩
 nodigits:=ah x.nodigits λmc c1 c2=>⟨mc,lX c1 (k _ AQ),c2⟩
theorem mu.sta{w:World}{h:Heap}(x:mu w h):gh w h:=by
 obtain⟨⟨x1,x2,x3⟩,mean,mg,mb,T⟩:=x
 exact⟨x1,x2,x3,⟨mb,T.b,T.builtins⟩,T.nolimit,T.nodigits⟩
structure Cx where
 w:World
 V:Addr->Prop
 J:Heap->Prop
 D:Addr->Prop
 O:Addr->Prop
 h₀:Heap
 os:OsState
 pin:Addr->Option Obj
 held:List (Value×Mine.D)
 t₀:Nat
 tz:Prop
noncomputable def jf(o:Obj):Prop:=∃vs q t,o.data=.fields vs/\vs[1]? =some (.str q t)
noncomputable def lM:Pos:=⟨66,39,66,76⟩
noncomputable def lQ:Pos:=⟨65,37,65,98⟩
noncomputable def gL:Str:="_translate.<locals>.<lambda>"
noncomputable def yR:Str:="_translate.<locals>.<genexpr>"
theorem vL{h h':Heap}{c:Value}{q:Str}(x:h.CodeRec c q)(k:∀a o,jf o->h.get? a=some o->h'.get? a=some o):h'.CodeRec c q:=
 jQ x λa o vs t e1 e2 e3 e4=>⟨a,o,vs,t,e1,k a o ⟨vs,q,t,e3,e4⟩ e2,e3,e4⟩
noncomputable def kv(h:Heap):Prop:=∃ps,h.get? 64=some (tabObj ps)/\TriplesOk ps.toList/\(∀c',codeAmong lM ps.toList=some c'->h.CodeRec c' gL)/\(∀c',codeAmong lQ ps.toList=some c'->h.CodeRec c' yR)
theorem kv.keeps{h h':Heap}(x:kv h)(k1:∀o,h.get? 64=some o->h'.get? 64=some o)(k:∀a o,jf o->h.get? a=some o->h'.get? a=some o):kv h':=by
 exact gC x λps h1 h2 h3 h4=>pD ps (k1 _ h1) h2 (λc' e=>vL (h3 c' e) k) (λc' e=>vL (h4 c' e) k)
structure Cx.Ok(c:Cx):Prop where
 vd:∀a,c.V a->c.D a
 vsa:∀a,c.V a->a∉Sa
 vseq:∀h a o xs k,c.J h->c.V a->h.get? a=some o->o.data≠.seq xs k
 vco:∀h a o,c.J h->c.V a->h.get? a=some o->¬jf o
 jin:∀h a,c.J h->c.D a->a < h.objs.size
 jk:∀h h',c.J h->(∀a,c.D a->∀o,h.get? a=some o->h'.get? a=some o)->(∀a o,jf o->h.get? a=some o->h'.get? a=some o)->c.J h'
 tab:c.V 64
 tabJ:∀h,c.J h->kv h
 tabK:∀h h',c.J h->(∀a o,a≠64->h.get? a=some o->h'.get? a=some o)->kv h'->c.J h'
 sn:∀a∈Sa,a < c.h₀.objs.size
 pv:∀a o,c.pin a=some o->¬c.V a
 tp:c.tz->0 < c.t₀
noncomputable def Kp(V:Addr->Prop)(h h':Heap):Prop:=h.objs.size<=h'.objs.size/\∀a o,¬V a->h.get? a=some o->h'.get? a=some o
theorem Kp.refl(V:Addr->Prop)(h:Heap):Kp V h h:=⟨Nat.le_refl _,λ_ _ _ e=>e⟩
theorem Kp.trans{V:Addr->Prop}{h h' h'':Heap}(x:Kp V h h')(y:Kp V h' h''):Kp V h h'':=⟨Nat.le_trans x.1 y.1,λa o v e=>y.2 a o v (x.2 a o v e)⟩
structure Step(c:Cx)(s s':Shared):Prop where
 kp:Kp c.V s.heap s'.heap
 j:c.J s.heap->c.J s'.heap
 os:s'.os=s.os
 gens:AllBare s.gens->AllBare s'.gens
 tk:s.toks<=s'.toks
structure Bs(c:Cx)(s:Shared):Prop where
 kp:Kp c.V c.h₀ s.heap
 pins:∀a o,c.pin a=some o->s.heap.get? a=some o
 sta:gh c.w s.heap
 j:c.J s.heap
 os:s.os=c.os
 gens:AllBare s.gens
 tk:c.t₀<=s.toks
theorem Step.refl(c:Cx)(s:Shared):Step c s s:=⟨.refl _ _,id,rfl,id,Nat.le_refl _⟩
theorem Step.trans{c:Cx}{s s' cQ:Shared}(x:Step c s s')(y:Step c s' cQ):Step c s cQ:=⟨x.kp.trans y.kp,λh=>y.j (x.j h),y.os.trans x.os,λh=>y.gens (x.gens h),Nat.le_trans x.tk y.tk⟩
theorem Step.keep{c:Cx}(ok:c.Ok){s s':Shared}(sz:s.heap.objs.size<=s'.heap.objs.size)(k:∀a o,s.heap.get? a=some o->s'.heap.get? a=some o)(os:s'.os=s.os:=by rfl)(g:s'.gens=s.gens:=by rfl)(tk:s.toks<=s'.toks:=by first | exact Nat.le_refl _ | exact Nat.le_succ _ | (lia)):Step c s s':=
 ⟨⟨sz,λa o _ e=>k a o e⟩,λh=>ok.jk _ _ h (λa _ o e=>k a o e) (λa o _ e=>k a o e),os,λh=>g▸h,tk⟩
theorem Step.push{c:Cx}(ok:c.Ok){s:Shared}(o:Obj)(t:Nat)(ht:s.toks<=t:=by first | exact Nat.le_refl _ | exact Nat.le_succ _ | (lia)):Step c s {s with heap:=s.heap.push o,toks:=t}:=
 .keep ok (by rw[Heap.size_push];lia) (λa x e=>Heap.get?_push_of_some o e) rfl rfl ht
theorem Step.tok{c:Cx}(ok:c.Ok){s:Shared}(t:Nat)(ht:s.toks<=t:=by first | exact Nat.le_refl _ | exact Nat.le_succ _ | (lia)):Step c s {s with toks:=t}:=.keep ok (Nat.le_refl _) (λ_ _ e=>e) rfl rfl ht
theorem Bs.step{c:Cx}(ok:c.Ok){s s':Shared}(x:Bs c s)(y:Step c s s'):Bs c s':=
 ⟨x.kp.trans y.kp,λa o e=>y.kp.2 a o (ok.pv a o e) (x.pins a o e),x.sta.keeps λa ha o e=>y.kp.2 a o (λv=>ok.vsa a v ha) e,y.j x.j,y.os.trans x.os,y.gens x.gens,Nat.le_trans x.tk y.tk⟩
theorem Bs.mQ{c:Cx}{s:Shared}(x:Bs c s){a:Addr}(h:s.heap.objs.size<=a):c.pin a=none:=by
 cases e:c.pin a with
 | none=>rfl
 | some o=>exact absurd (Heap.lt_size (x.pins a o e)) (Nat.not_lt.mpr h)
theorem Bs.size{c:Cx}{s:Shared}(x:Bs c s):c.h₀.objs.size<=s.heap.objs.size:=x.kp.1
theorem jN.nu{c:Cx}(ok:c.Ok){h h':Heap}(j:c.J h)(k:Kp c.V h h')(O:Addr->Prop):jN h h' O O:=λa o xs n e hd ho=>
 ⟨k.2 a o (λv=>ok.vseq h a o xs n j v e hd) e,ho⟩
theorem ag.step{c:Cx}(ok:c.Ok){s s':Shared}(x:Bs c s)(y:Step c s s'){O:Addr->Prop}{v:Value}{d:D}(r:ag s.heap O v d):ag s'.heap O v d:=r.mono (.nu ok x.j y.kp O)
theorem aq.step{c:Cx}(ok:c.Ok){s s':Shared}(x:Bs c s)(y:Step c s s'){O:Addr->Prop}{v:List Value}{d:List D}(r:aq s.heap O v d):aq s'.heap O v d:=r.mono (.nu ok x.j y.kp O)
theorem jN.less{h:Heap}{O O':Addr->Prop}(k:∀a,O' a->O a):jN h h O O':=λa _ _ _ e _ ho=>⟨e,λh=>ho (k a h)⟩
theorem ag.less{h:Heap}{O O':Addr->Prop}{v:Value}{d:D}(r:ag h O v d)(k:∀a,O' a->O a):ag h O' v d:=r.mono (.less k)
theorem aq.less{h:Heap}{O O':Addr->Prop}{v:List Value}{d:List D}(r:aq h O v d)(k:∀a,O' a->O a):aq h O' v d:=r.mono (.less k)
inductive LV where
 | d (d:D)
 | own (ds:List D)
 | app (x:String)
noncomputable abbrev Ctx:=List (String×LV)
noncomputable def find:Ctx->String->Option LV
 | [],_=>none
 | (y,l)::r,x=>if y=x then some l else find r x
noncomputable def upd:Ctx->String->LV->Ctx
 | [],x,l=>[(x,l)]
 | (y,m)::r,x,l=>if y=x then(x,l)::r else(y,m)::upd r x l
theorem ai(Z:Ctx)(x y:String)(l:LV):find (upd Z x l) y=if x=y then some l else find Z y:=by
 induction Z with
 | nil=>rfl
 | cons p r ih=>
  obtain⟨z,m⟩:=p
  dsimp only[upd]
  by_cases hz:z=x
  ·refine rB hz<|ab (if_pos rfl)<|(?_:(if z=y then some l else find r y)=if z=y then some l else(if z=y then some m else find r y))
   split<;>rfl
  ·refine ab (if_neg hz)<|(?_:(if z=y then some m else find (upd r x l) y)=if x=y then some l else(if z=y then some m else find r y))
   refine ab ih ?_
   by_cases hy:z=y
   ·refine rB hy<|ab (if_pos rfl)<|ab (if_pos rfl) ?_;rw[if_neg (λe=>hz e.symm)]
   ·refine ab (if_neg hy) ?_;rw[if_neg hy]
noncomputable abbrev Ow:=String->Option Addr
noncomputable def av(c:Cx)(ow:Ow)(a:Addr):Prop:=c.O a∨∃x,ow x=some a
noncomputable def d9(a:Addr):Obj:={cls:=.type "builtin_function_or_method",data:=.fields #[.builtin "list.append",.ref a]}
noncomputable def bL(c:Cx)(ow:Ow)(h:Heap)(v:Value):LV->Prop
 | .d d=>ag h (av c ow) v d
 | .own ds=>∃x a vs,v=.ref a/\ow x=some a/\PL h a vs.toArray/\aq h (av c ow) vs ds
 | .app y=>∃b a,v=.ref b/\ow y=some a/\h.get? b=some (d9 a)/\¬c.D b
noncomputable def ig(c:Cx)(ow:Ow)(h:Heap)(x:String)(v:Value):LV->Prop
 | .d d=>ag h (av c ow) v d
 | .own ds=>∃a vs,v=.ref a/\ow x=some a/\PL h a vs.toArray/\aq h (av c ow) vs ds
 | .app y=>∃b a,v=.ref b/\ow y=some a/\h.get? b=some (d9 a)/\¬c.D b
theorem ig.lv{c:Cx}{ow:Ow}{h:Heap}{x:String}{v:Value}{l:LV}(r:ig c ow h x v l):bL c ow h v l:=by
 cases l with
 | own _=>exact⟨x,r⟩
 | _=>exact r
noncomputable def nA(aa:Env)(h:Heap)(m:Str->Option Value)(x:String)(v:Value):Prop:=
 (aa.kindOf x=some .local/\m x=some v)∨((aa.kindOf x=some .cell∨aa.kindOf x=some .free)/\∃cl,aa.cells.lookup (Str.ofString x)=some cl/\h.IsCell cl (some v))∨x="%acc"
structure rZ(c:Cx)(aa:Env)(Z:Ctx)(ow:Ow)(h:Heap):Prop where
 kind:aa.scope.kind=.function
 glob:aa.globals=mainGlobals
 bins:aa.builtins=builtinsNs
 loc:c.h₀.objs.size<=aa.locals
 locD:¬c.D aa.locals
 ns:∃m,h.Ns aa.locals m/\∀x l,find Z x=some l->∃v,nA aa h m x v/\ig c ow h x v l
 cnew:∀(x:Str) cl,aa.cells.lookup x=some cl->c.h₀.objs.size<=cl->∃v,h.IsCell cl v
 cD:∀(x:Str) cl,aa.cells.lookup x=some cl->¬c.D cl
 cinj:∀(x y:Str) cl,aa.cells.lookup x=some cl->aa.cells.lookup y=some cl->x=y
 onew:∀x a,ow x=some a->c.h₀.objs.size<=a/\¬c.D a/\∃xs,PL h a xs
 oinj:∀x y a,ow x=some a->ow y=some a->x=y
 pL:c.pin aa.locals=none
 pC:∀(x:Str) cl,aa.cells.lookup x=some cl->c.h₀.objs.size<=cl->c.pin cl=none
 pO:∀x a,ow x=some a->c.pin a=none
 held:∀p∈c.held,ag h (av c ow) p.1 p.2
structure Inv(c:Cx)(aa:Env)(Z:Ctx)(ow:Ow)(s:Shared):Prop where
 ok:c.Ok
 oin:∀a,c.O a->a < c.h₀.objs.size
 bs:Bs c s
 frm:rZ c aa Z ow s.heap
theorem sX{c:Cx}(ok:c.Ok){h h':Heap}{cl:Addr}{v:Option Value}(hn:¬c.D cl)(k:Kp c.V h h')(x:h.IsCell cl v):h'.IsCell cl v:=
 ah x λo e hd=>⟨o,k.2 _ _ (λv=>hn (ok.vd _ v)) e,hd⟩
theorem xo{c:Cx}(ok:c.Ok){h h':Heap}{a:Addr}{xs:Array Value}(j:c.J h)(k:Kp c.V h h')(x:PL h a xs):PL h' a xs:=
 aW x λn e=>⟨n,k.2 _ _ (λv=>ok.vseq h a _ xs n j v e rfl) e⟩
theorem nA.kp{c:Cx}(ok:c.Ok){aa:Env}{h h':Heap}{m:Str->Option Value}{x:String}{v:Value}(hn:∀(x:Str) cl,aa.cells.lookup x=some cl->¬c.D cl)(k:Kp c.V h h')(y:nA aa h m x v):nA aa h' m x v:=by
 rcases y with y | ⟨y,cl,h1,h2⟩ | y
 ·exact .inl y
 ·exact .inr (.inl ⟨y,cl,h1,sX ok (hn _ _ h1) k h2⟩)
 ·exact .inr (.inr y)
theorem zT{c:Cx}(ok:c.Ok){ow:Ow}{h h':Heap}{v:Value}{y:String}(k:Kp c.V h h')(r:∃b a,v=.ref b/\ow y=some a/\h.get? b=some (d9 a)/\¬c.D b):∃b a,v=.ref b/\ow y=some a/\h'.get? b=some (d9 a)/\¬c.D b:=
 cf r λb a e o h1 hd=>⟨b,a,e,o,k.2 _ _ (λv=>hd (ok.vd _ v)) h1,hd⟩
theorem zx{c:Cx}(ok:c.Ok){ow:Ow}{h h':Heap}{v:Value}{x:String}{ds:List D}(j:c.J h)(k:Kp c.V h h')(r:∃a vs,v=.ref a/\ow x=some a/\PL h a vs.toArray/\aq h (av c ow) vs ds):∃a vs,v=.ref a/\ow x=some a/\PL h' a vs.toArray/\aq h' (av c ow) vs ds:=
 cf r λa vs e o l r=>⟨a,vs,e,o,xo ok j k l,r.mono (.nu ok j k _)⟩
theorem ig.kp{c:Cx}(ok:c.Ok){ow:Ow}{h h':Heap}{x:String}{v:Value}(j:c.J h)(k:Kp c.V h h'){l:LV}(r:ig c ow h x v l):ig c ow h' x v l:=by
 cases l with
 | d _=>exact ag.mono (.nu ok j k _) r
 | own _=>exact zx ok j k r
 | app _=>exact zT ok k r
theorem bL.kp{c:Cx}(ok:c.Ok){ow:Ow}{h h':Heap}{v:Value}(j:c.J h)(k:Kp c.V h h'){l:LV}(r:bL c ow h v l):bL c ow h' v l:=by
 cases l with
 | d _=>exact ag.mono (.nu ok j k _) r
 | own _=>exact Exists.elim r λx r=>⟨x,zx ok j k r⟩
 | app _=>exact zT ok k r
theorem rZ.kp{c:Cx}(ok:c.Ok){aa:Env}{Z:Ctx}{ow:Ow}{h h':Heap}(j:c.J h)(k:Kp c.V h h')(f:rZ c aa Z ow h):rZ c aa Z ow h' where
 kind:=f.kind
 glob:=f.glob
 bins:=f.bins
 loc:=f.loc
 locD:=f.locD
 ns:=by
  refine ah f.ns λm hm hv=>aJ m (lX hm λo e=>k.2 _ _ (λv=>f.locD (ok.vd _ v)) e) (λx l e=>?_)
  exact ah (hv x l e) λv h1 h2=>aJ v (h1.kp ok f.cD k) (h2.kp ok j k)
 cnew:=λx cl h1 h2=>aW (f.cnew x cl h1 h2) λv b=>⟨v,sX ok (f.cD x cl h1) k b⟩
 cD:=f.cD
 cinj:=f.cinj
 onew:=λx a e=>let⟨h1,h2,xs,h3⟩:=f.onew x a e;⟨h1,h2,xs,xo ok j k h3⟩
 oinj:=f.oinj
 pL:=f.pL
 pC:=f.pC
 pO:=f.pO
 held:=λp hp=>(f.held p hp).mono (.nu ok j k _)
theorem Inv.step{c:Cx}{aa:Env}{Z:Ctx}{ow:Ow}{s s':Shared}(I:Inv c aa Z ow s)(y:Step c s s'):Inv c aa Z ow s':=
 ⟨I.ok,I.oin,I.bs.step I.ok y,I.frm.kp I.ok I.bs.j y.kp⟩
theorem Inv.fresh{c:Cx}{aa:Env}{Z:Ctx}{ow:Ow}{s:Shared}(I:Inv c aa Z ow s):¬av c ow s.heap.objs.size:=by
 rintro(h | ⟨x,h⟩)
 ·exact Nat.not_lt.mpr I.bs.size (I.oin _ h)
 ·refine bB (I.frm.onew x _ h) λ_ _ ar=>cY ar λxs o ho=>?_
  exact Nat.lt_irrefl _ (Heap.lt_size ho)
theorem Inv.freshD{c:Cx}{aa:Env}{Z:Ctx}{ow:Ow}{s:Shared}(I:Inv c aa Z ow s):¬c.D s.heap.objs.size:=λh=>Nat.lt_irrefl _ (I.ok.jin _ _ I.bs.j h)
structure bh(n:Nat)(A:Around):Prop where
 h:A.handled=none
 d:A.depth+10 * n<=900
 u:A.units+100 * n<=9000
theorem bh.less{n m:Nat}{A:Around}(r:bh n A)(h:m<=n):bh m A:=⟨r.h,by have:=r.d;lia,by have:=r.u;lia⟩
theorem bh.in1{n:Nat}{A:Around}(r:bh (n+1) A):bh n A.in1:=⟨r.h,by have:=r.d;lia,by have:=r.u;lia⟩
noncomputable abbrev n7.Ty(c:Cx)(n:Nat)(aa:Env)(Z:Ctx)(t:Sem Value)(l:LV):Prop:=
 ∀(A:Around) (s:Shared) (Q:Value->Shared->Prop) (E:Value->Shared->Prop) (ow:Ow),bh n A->Inv c aa Z ow s->(∀v s',bL c ow s'.heap v l->Step c s s'->Q v s')->wpAny (model pg c.w) A t Q E s
structure n7(c:Cx)(n:Nat)(aa:Env)(Z:Ctx)(t:Sem Value)(l:LV):Prop where
 run:n7.Ty c n aa Z t l
noncomputable abbrev Ev(c:Cx)(n:Nat)(aa:Env)(Z:Ctx)(e:Expr)(l:LV):Prop:=n7 c n aa Z (eval e aa) l
noncomputable def Cd(c:Cx)(n:Nat)(aa:Env)(Z:Ctx)(e:Expr)(b:Bool):Prop:=
 ∀(A:Around) (s:Shared) (Q:Bool->Shared->Prop) (E:Value->Shared->Prop) (ow:Ow),bh n A->Inv c aa Z ow s->(∀s',Step c s s'->Q b s')->wpAny (model pg c.w) A (isTrue e aa (eval e aa)) Q E s
inductive az where
 | next (Z:Ctx)
 | brk (Z:Ctx)
 | cont (Z:Ctx)
 | ret (d:D)
noncomputable def Aq(c:Cx)(aa:Env):az->Flow->Shared->Prop
 | .next Z,.next,s=>∃ow,Inv c aa Z ow s
 | .brk Z,.brk,s=>∃ow,Inv c aa Z ow s
 | .cont Z,.cont,s=>∃ow,Inv c aa Z ow s
 | .ret d,.ret v,s=>Bs c s/\ag s.heap c.O v d
 | _,_,_=>False
noncomputable abbrev bS.Ty(c:Cx)(n:Nat)(aa:Env)(Z:Ctx)(ss:List Stmt)(P:az->Prop):Prop:=
 ∀(A:Around) (s:Shared) (Q:Flow->Shared->Prop) (E:Value->Shared->Prop) (ow:Ow),bh n A->Inv c aa Z ow s->(∀f s' o,P o->Aq c aa o f s'->Q f s')->wpAny (model pg c.w) A (execs ss aa) Q E s
structure bS(c:Cx)(n:Nat)(aa:Env)(Z:Ctx)(ss:List Stmt)(P:az->Prop):Prop where
 run:bS.Ty c n aa Z ss P
noncomputable abbrev bY.Ty(c:Cx)(n:Nat)(aa:Env)(Z:Ctx)(st:Stmt)(P:az->Prop):Prop:=
 ∀(A:Around) (s:Shared) (Q:Flow->Shared->Prop) (E:Value->Shared->Prop) (ow:Ow),bh n A->Inv c aa Z ow s->(∀f s' o,P o->Aq c aa o f s'->Q f s')->wpAny (model pg c.w) A (exec st aa) Q E s
structure bY(c:Cx)(n:Nat)(aa:Env)(Z:Ctx)(st:Stmt)(P:az->Prop):Prop where
 run:bY.Ty c n aa Z st P
noncomputable def Fn(n:Nat)(f:Addr)(args:List D)(r:D):Prop:=
 ∀(c:Cx) (A:Around) (s:Shared) (vs:List Value) (Q:Value->Shared->Prop) (E:Value->Shared->Prop),c.Ok->c.held=[]->c.tz->bh n A->c.h₀=s.heap->c.t₀=s.toks->(∀a,c.O a->a < s.heap.objs.size)->Bs c s->aq s.heap c.O vs args->
  (∀v s',ag s'.heap c.O v r->Step c s s'->Q v s')->wpAny (model pg c.w) A (call (.ref f) vs) Q E s
theorem Fn.le{n m:Nat}{f:Addr}{args:List D}{r:D}(h:Fn n f args r)(k:n<=m):Fn m f args r:=λc A s vs Q E ok he tz rm=>h c A s vs Q E ok he tz (rm.less k)
theorem n7.le{c:Cx}{n m:Nat}{aa:Env}{Z:Ctx}{t:Sem Value}{l:LV}(h:n7 c n aa Z t l)(k:n<=m):n7 c m aa Z t l:=⟨λA s Q E ow rm=>h.run A s Q E ow (rm.less k)⟩
end
section
section
variable {c:Cx} {n:Nat} {aa:Env} {Z:Ctx}
theorem gP{i:Int}{k:Nat}{pos:Pos}:Ev c n aa Z (.Constant (.int i) k pos) (.d (.int i)):=
 ⟨λ_ _ _ _ _ _ I h=>wpAny_Constant_int (h _ _ (.int i _) (.tok I.ok _))⟩
theorem oP{x:Str}{k:Nat}{pos:Pos}:Ev c n aa Z (.Constant (.str x) k pos) (.d (.str x)):=
 ⟨λ_ _ _ _ _ _ I h=>Calls.Constant_str (h _ _ (.str x _) (.tok I.ok _))⟩
theorem lE{k:Nat}{pos:Pos}:Ev c n aa Z (.Constant .none k pos) (.d .none):=
 ⟨λ_ _ _ _ _ _ _ h=>wpAny_Constant_none (h _ _ .none (.refl _ _))⟩
theorem yU{b:Bool}{k:Nat}{pos:Pos}:Ev c n aa Z (.Constant (.bool b) k pos) (.d (.bool b)):=
 ⟨λ_ _ _ _ _ _ _ h=>wpAny_Constant_bool (h _ _ (.bool b) (.refl _ _))⟩
theorem yf{b:List UInt8}{k:Nat}{pos:Pos}:Ev c n aa Z (.Constant (.bytes b) k pos) (.d (.bytes b.toArray)):=by
 refine⟨?_⟩
 intro A s Q E ow rm I h
 exact wpAny_mkTextBytes (h _ _ (.bytes _ _) (.tok I.ok _))
noncomputable def eu(x:String):Prop:=x≠"%acc"/\(Str.ofString x==("__debug__":Str))=false/\(Str.ofString x==("__classdict__":Str))=false
theorem bK{x:String}{pos:Pos}{l:LV}(e:find Z x=some l)(hg:eu x:=by unfold eu;decide+kernel):Ev c n aa Z (.Name (Str.ofString x) pos) l:=by
 refine⟨?_⟩
 intro A s Q E ow rm I h
 refine ah I.frm.ns λm hm hv=>ah (hv x l e) λv h1 h2=>wpAny_Name ?_ hg.2.1
 have q:=h v s h2.lv (.refl _ _)
 rcases h1 with⟨k,e⟩ | ⟨k | k,cl,e1,e2⟩ | k
 ·exact wpAny_loadName_local I.frm.kind k hm e q
 ·exact wpAny_loadName_cell I.frm.kind k e1 e2 q
 ·exact wpAny_loadName_free I.frm.kind k e1 e2 q hg.2.2
 ·exact absurd k hg.1
noncomputable def dr(x:Str)(v:Value):Prop:=∀(w:World) (h:Heap),gh w h->∃mg mb,h.Ns mainGlobals mg/\h.Ns builtinsNs mb/\(mg x=some v∨(mg x=none/\mb x=some v))
theorem ej{x:Str}{v:Value}(e:(x,v)∈l7):dr x v:=λw h S=>by
 refine gV S.g λmg g1 g2 _=>ah S.b λmb b1 _=>?_
 exact mA mg mb g1 b1 (.inl (g2 _ e))
theorem sI{x:Str}{v:Value}(e:x∈ku)(hn:x≠"__name__")(hv:bootBuiltins x=some v):dr x v:=λw h S=>by
 refine gV S.g λmg g1 _ g3=>ah S.b λmb b1 b2=>?_
 exact mA mg mb g1 b1 (.inr ⟨g3 _ e,(b2 x hn).trans hv⟩)
theorem iU{x:Str}{v:Value}{pos:Pos}{A:Around}{s:Shared}{Q:Value->Shared->Prop}{E:Value->Shared->Prop}{ow:Ow}(I:Inv c aa Z ow s)(g:dr x v)(hk:aa.kindOf x=some .globalImplicit)
  (hd:(x==("__debug__":Str))=false) (h:Q v s):wpAny (model pg c.w) A (eval (.Name x pos) aa) Q E s:=by
 refine cR (g _ _ I.bs.sta) λmg mb g1 ar=>?_;obtain⟨b1,e | ⟨e1,e2⟩⟩:=ar
 ·exact Name_function_global I.frm.kind hk (loadGlobal_global (I.frm.glob▸g1) e h) hd
 ·exact Name_function_global I.frm.kind hk (loadGlobal_builtin (I.frm.glob▸g1) e1 (I.frm.bins▸b1) e2 h) hd
theorem EV{x:Str}{v:Value}{d:D}{pos:Pos}(g:dr x v)(hr:∀h O,ag h O v d)(hk:aa.kindOf x=some .globalImplicit)(hd:(x==("__debug__":Str))=false:=by decide+kernel):
  Ev c n aa Z (.Name x pos) (.d d):=⟨λ_ s _ _ _ _ I h=>iU I g hk hd (h v s (hr _ _) (.refl _ _))⟩
noncomputable def AX(c:Cx)(n:Nat)(t:Value->Sem Value)(a r:LV):Prop:=
 ∀(aa:Env) (Z:Ctx) (A:Around) (s:Shared) (Q:Value->Shared->Prop) (E:Value->Shared->Prop) (ow:Ow) (va:Value),bh n A->Inv c aa Z ow s->bL c ow s.heap va a->
  (∀v s',bL c ow s'.heap v r->Step c s s'->Q v s')->wpAny (model pg c.w) A (t va) Q E s
noncomputable def be(c:Cx)(n:Nat)(t:Value->Value->Sem Value)(a b r:LV):Prop:=
 ∀(aa:Env) (Z:Ctx) (A:Around) (s:Shared) (Q:Value->Shared->Prop) (E:Value->Shared->Prop) (ow:Ow) (va vb:Value),bh n A->Inv c aa Z ow s->bL c ow s.heap va a->bL c ow s.heap vb b->
  (∀v s',bL c ow s'.heap v r->Step c s s'->Q v s')->wpAny (model pg c.w) A (t va vb) Q E s
noncomputable def ll(c:Cx)(n:Nat)(a:LV)(b:Bool):Prop:=
 ∀(aa:Env) (Z:Ctx) (A:Around) (s:Shared) (Q:Bool->Shared->Prop) (E:Value->Shared->Prop) (ow:Ow) (va:Value),bh n A->Inv c aa Z ow s->bL c ow s.heap va a->
  (∀s',Step c s s'->Q b s')->wpAny (model pg c.w) A (truthy va) Q E s
theorem bL.inv{ow:Ow}{s s':Shared}{v:Value}{l:LV}(r:bL c ow s.heap v l)(I:Inv c aa Z ow s)(st:Step c s s'):bL c ow s'.heap v l:=r.kp I.ok I.bs.j st.kp
theorem ju{l r:Expr}{op:Operator}{pos:Pos}{a b z:LV}(h1:Ev c n aa Z l a)(h2:Ev c n aa Z r b)(h3:be c n (binaryOp op) a b z):Ev c n aa Z (.BinOp l op r pos) z:=
 ⟨λA s Q E ow rm I h=>wpAny_BinOp (h1.run A s _ E ow rm I λva s1 ra al=>h2.run A s1 _ E ow rm (I.step al) λvb s2 rb aG=>
  h3 aa Z A s2 Q E ow va vb rm ((I.step al).step aG) (ra.inv (I.step al) aG) rb λv s3 rv cI=>h v s3 rv (al.trans (aG.trans cI)))⟩
theorem qK{l r:Expr}{op:CmpOp}{pos:Pos}{a b z:LV}(h1:Ev c n aa Z l a)(h2:Ev c n aa Z r b)(h3:be c n (compareOp op) a b z)(hm:behindInMarks op r=false:=by with_unfolding_all rfl):Ev c n aa Z (.Compare l [op] [r] pos) z:=
 ⟨λA s Q E ow rm I h=>wpAny_Compare1 (h1.run A s _ E ow rm I λva s1 ra al=>h2.run A s1 _ E ow rm (I.step al) λvb s2 rb aG=>
  h3 aa Z A s2 Q E ow va vb rm ((I.step al).step aG) (ra.inv (I.step al) aG) rb λv s3 rv cI=>h v s3 rv (al.trans (aG.trans cI))) hm⟩
theorem ye{x:Expr}{op:UnaryOp}{pos:Pos}{a z:LV}(h1:Ev c n aa Z x a)(h3:AX c n (unaryOp op) a z):Ev c n aa Z (.UnaryOp op x pos) z:=
 ⟨λA s Q E ow rm I h=>wpAny_UnaryOp (h1.run A s _ E ow rm I λva s1 ra al=>h3 aa Z A s1 Q E ow va rm (I.step al) ra λv s3 rv cI=>h v s3 rv (al.trans cI))⟩
theorem i5{l r:Expr}{op:CmpOp}{pos:Pos}{a b:LV}{t:Bool}(h1:Ev c n aa Z l a)(h2:Ev c n aa Z r b)(h3:be c n (compareOp op) a b (.d (.bool t)))(hm:behindInMarks op r=false:=by with_unfolding_all rfl):Cd c n aa Z (.Compare l [op] [r] pos) t:=
 λA s Q E ow rm I h=>wpAny_isTrue_Compare1 (h1.run A s _ E ow rm I λva s1 ra al=>h2.run A s1 _ E ow rm (I.step al) λvb s2 rb aG=>
  h3 aa Z A s2 _ E ow va vb rm ((I.step al).step aG) (ra.inv (I.step al) aG) rb λv s3 rv cI=>by exact ag.l9 rv<|wpAny_truthy_bool (h s3 (al.trans (aG.trans cI)))) hm
theorem zP{x:Expr}{pos:Pos}{t:Bool}(h1:Cd c n aa Z x t):Cd c n aa Z (.UnaryOp .Not x pos) (!t):=
 λA s Q E ow rm I h=>wpAny_isTrue_Not (h1 A s _ E ow rm I λs1 al=>h s1 al)
noncomputable def lg(c:Cx)(n:Nat)(aa:Env)(Z:Ctx)(op:BoolOp)(xs:List Expr)(b:Bool):Prop:=
 ∀(A:Around) (s:Shared) (Q:Bool->Shared->Prop) (E:Value->Shared->Prop) (ow:Ow),bh n A->Inv c aa Z ow s->(∀s',Step c s s'->Q b s')->wpAny (model pg c.w) A (allTrue op xs aa) Q E s
theorem and_nil:lg c n aa Z .And [] true:=λA s Q E ow rm I h=>wpAny_allTrue_And_nil (h s (.refl _ _))
theorem or_nil:lg c n aa Z .Or [] false:=λA s Q E ow rm I h=>wpAny_allTrue_Or_nil (h s (.refl _ _))
theorem and_cons{x:Expr}{ao:List Expr}{a b:Bool}(h1:Cd c n aa Z x a)(h2:a=true->lg c n aa Z .And ao b):lg c n aa Z .And (x::ao) (a&&b):=
 λA s Q E ow rm I h=>wpAny_allTrue_And_cons (h1 A s _ E ow rm I λs1 al=>by
  cases a with
  | true=>exact h2 rfl A s1 Q E ow rm (I.step al) λs2 aG=>h s2 (al.trans aG)
  | false=>exact h s1 al)
theorem or_cons{x:Expr}{ao:List Expr}{a b:Bool}(h1:Cd c n aa Z x a)(h2:a=false->lg c n aa Z .Or ao b):lg c n aa Z .Or (x::ao) (a||b):=
 λA s Q E ow rm I h=>wpAny_allTrue_Or_cons (h1 A s _ E ow rm I λs1 al=>by
  cases a with
  | false=>exact h2 rfl A s1 Q E ow rm (I.step al) λs2 aG=>h s2 (al.trans aG)
  | true=>exact h s1 al)
theorem mZ{op:BoolOp}{xs:List Expr}{pos:Pos}{b:Bool}(h1:lg c n aa Z op xs b):Cd c n aa Z (.BoolOp op xs pos) b:=
 λA s Q E ow rm I h=>wpAny_isTrue_BoolOp (h1 A s Q E ow rm I h)
theorem qo{e:Expr}{l:LV}{b:Bool}(h1:Ev c n aa Z e l)(h2:ll c n l b)(he:∀whole,isTrue e aa whole=(do let v <- whole;standAt e.pos;holding [v] (truthy v)):=by intro _;rfl):Cd c n aa Z e b:=
 λA s Q E ow rm I h=>by
  rw[he]
  exact wpAny_bind (h1.run A s _ E ow rm I λv s1 r al=>wpAny_bind (wpAny_standAt (wpAny_holding (h2 aa Z A s1 Q E ow v rm (I.step al) r λs2 aG=>h s2 (al.trans aG)))))
theorem NA{t x y:Expr}{pos:Pos}{a b:Bool}(h0:Cd c n aa Z t a)(h1:a=true->Cd c n aa Z x b)(h2:a=false->Cd c n aa Z y b):Cd c n aa Z (.IfExp t x y pos) b:=
 λA s Q E ow rm I h=>by
  refine wpAny_bind (h0 A s _ E ow rm I λs1 al=>?_)
  cases a with
  | true=>exact h1 rfl A s1 Q E ow rm (I.step al) λs2 aG=>h s2 (al.trans aG)
  | false=>exact h2 rfl A s1 Q E ow rm (I.step al) λs2 aG=>h s2 (al.trans aG)
theorem oQ{t x y:Expr}{pos:Pos}{a:Bool}{l:LV}(h0:Cd c n aa Z t a)(h1:a=true->Ev c n aa Z x l)(h2:a=false->Ev c n aa Z y l):Ev c n aa Z (.IfExp t x y pos) l:=
 ⟨λA s Q E ow rm I h=>by
  refine wpAny_bind (h0 A s _ E ow rm I λs1 al=>?_)
  cases a with
  | true=>exact(h1 rfl).run A s1 Q E ow rm (I.step al) λv s2 r aG=>h v s2 r (al.trans aG)
  | false=>exact(h2 rfl).run A s1 Q E ow rm (I.step al) λv s2 r aG=>h v s2 r (al.trans aG)⟩
theorem lq{h h':Heap}{a:Addr}(hs:Heap.SameBut a h h'){O O':Addr->Prop}(hO:∀b,¬O b->¬O' b)(hn:¬O a->∀o xs k,h.get? a=some o->o.data≠.seq xs k):jN h h' O O':=λb o xs k e hd ho=>
 ⟨(hs.2 b (λq=>by subst q;exact hn ho o xs k e hd)).trans e,hO b ho⟩
theorem oi{s:Shared}(ok:c.Ok)(b:Bs c s){a:Addr}{h':Heap}(hs:Heap.SameBut a s.heap h')(ha:c.h₀.objs.size<=a)(hD:¬c.D a)(hp:c.pin a=none)(hc:∀o,s.heap.get? a=some o->¬jf o)(t:Nat)(ht:s.toks<=t:=by first | exact Nat.le_refl _ | exact Nat.le_succ _ | (lia)):Bs c {s with heap:=h',toks:=t} where
 pins:=λx o e=>(hs.2 x (λq=>by subst q;replace e:=hp▸e;exact nS e)).trans (b.pins x o e)
 kp:=⟨by exact ab (show({s with heap:=h',toks:=t}:Shared).heap.objs.size=s.heap.objs.size from hs.1)<|b.kp.1,λx o v e=>(hs.2 x (λq=>by
  subst q;exact absurd (Heap.lt_size e) (Nat.not_lt.mpr ha))).trans (b.kp.2 x o v e)⟩
 sta:=b.sta.keeps λx hx o e=>(hs.2 x (λq=>by subst q;exact absurd (ok.sn _ hx) (Nat.not_lt.mpr ha))).trans e
 j:=ok.jk _ _ b.j (λx hx o e=>(hs.2 x (λq=>by subst q;exact hD hx)).trans e) (λx o ho e=>(hs.2 x (λq=>by subst q;exact hc o e ho)).trans e)
 os:=b.os
 gens:=b.gens
 tk:=Nat.le_trans b.tk ht
theorem qr{h:Heap}{a:Addr}{m:Str->Option Value}(x:h.Ns a m){o:Obj}(e:h.get? a=some o):¬jf o:=by
 rintro⟨vs,_,_,hv,_⟩
 refine lh x λo' es ep e' hd _=>?_
 replace e':=e▸e';obtain rfl:=Option.some.inj e'
 replace hd:=hv▸hd;cases hd
theorem E8{h:Heap}{a:Addr}{v:Option Value}(x:h.IsCell a v){o:Obj}(e:h.get? a=some o):¬jf o:=by
 rintro⟨vs,_,_,hv,_⟩
 refine ah x λo' e' hd=>?_
 replace e':=e▸e';obtain rfl:=Option.some.inj e'
 replace hd:=hv▸hd;cases hd
theorem EG{h:Heap}{a:Addr}{xs:Array Value}(x:PL h a xs){o:Obj}(e:h.get? a=some o):¬jf o:=by
 rintro⟨vs,_,_,hv,_⟩
 refine aW x λk e'=>?_
 replace e':=e▸e';obtain rfl:=Option.some.inj e'
 cases hv
theorem mS{h:Heap}{a:Addr}{m:Str->Option Value}(x:h.Ns a m){o:Obj}{xs:Array Value}{k:Nat}(e:h.get? a=some o):o.data≠.seq xs k:=by
 refine lh x λo' es ep e' hd _=>?_
 replace e':=e▸e';exact iK e'<|ab hd<| λq=>nomatch q
theorem sQ{h:Heap}{a:Addr}{v:Option Value}(x:h.IsCell a v){o:Obj}{xs:Array Value}{k:Nat}(e:h.get? a=some o):o.data≠.seq xs k:=by
 refine ah x λo' e' hd=>?_
 replace e':=e▸e';exact iK e'<|ab hd<| λq=>nomatch q
theorem mJ{h:Heap}{a b:Addr}{m:Str->Option Value}{v:Option Value}(x:h.Ns a m)(y:h.IsCell b v):b≠a:=by
 rintro rfl
 refine lh x λo es ep e hd _=>ah y λo' e' ck=>?_
 replace e':=e▸e';obtain rfl:=Option.some.inj e'
 replace ck:=hd▸ck;cases ck
theorem jT{h h':Heap}{a b:Addr}{xs:Array Value}(hs:Heap.SameBut a h h')(hb:b≠a)(x:PL h b xs):PL h' b xs:=
 aW x λo e=>⟨o,(hs.2 b hb).trans e⟩
theorem lB{h:Heap}{a b:Addr}{xs:Array Value}(x:PL h b xs)(hn:∀o ys k,h.get? a=some o->o.data≠.seq ys k):b≠a:=by
 rintro rfl
 exact aW x λk e=>hn _ xs k e rfl
theorem ig.sameBut{ow:Ow}{h h':Heap}{a:Addr}(hs:Heap.SameBut a h h')(hn:∀o xs k,h.get? a=some o->o.data≠.seq xs k)(hf:∀o b,h.get? a=some o->o≠d9 b){x:String}{v:Value}:
  ∀{l:LV},ig c ow h x v l->ig c ow h' x v l
 | .d _,r=>r.mono (lq hs (λ_ q=>q) λ_=>hn)
 | .own _,⟨b,vs,e,o,l,r⟩=>⟨b,vs,e,o,jT hs (lB l hn) l,r.mono (lq hs (λ_ q=>q) λ_=>hn)⟩
 | .app _,⟨b,b',e,o,h1,hd⟩=>⟨b,b',e,o,(hs.2 b (λq=>by subst q;exact hf _ _ h1 rfl)).trans h1,hd⟩
theorem tE{h:Heap}{a:Addr}{m:Str->Option Value}(x:h.Ns a m){o:Obj}{b:Addr}(e:h.get? a=some o):o≠d9 b:=by
 refine lh x λo' es ep e' hd _=>?_
 replace e':=e▸e';refine iK e' ?_
 rintro rfl;cases hd
theorem DJ{h:Heap}{a:Addr}{v:Option Value}(x:h.IsCell a v){o:Obj}{b:Addr}(e:h.get? a=some o):o≠d9 b:=by
 refine ah x λo' e' hd=>?_
 replace e':=e▸e';refine iK e' ?_
 rintro rfl;cases hd
noncomputable def cr(c:Cx)(aa:Env)(x:String):Prop:=aa.kindOf (Str.ofString x)=some .local∨(aa.kindOf (Str.ofString x)=some .cell/\∃cl,aa.cells.lookup (Str.ofString x)=some cl/\c.h₀.objs.size<=cl)
theorem C1{s:Shared}{ow:Ow}{x:String}{v:Value}{l:LV}{A:Around}{Q:Unit->Shared->Prop}{E:Value->Shared->Prop}(I:Inv c aa Z ow s)(hx:cr c aa x)
  (hl:ig c ow s.heap x v l)
  (h:∀s',Inv c aa (upd Z x l) ow s'->(∀a xs,PL s.heap a xs->PL s'.heap a xs)->Q () s'):wpAny (model pg c.w) A (storeName aa (Str.ofString x) v) Q E s:=by
 refine ah I.frm.ns λm hm hv=>?_
 rcases hx with hx | ⟨hx,hc⟩
 ·refine wpAny_storeName_local hx hm (λh' hn hs=>(λz=>h _ z λa xs pl=>jT hs (lB pl λo ys k e=>mS hm e) pl) ⟨I.ok,I.oin,oi I.ok I.bs hs I.frm.loc I.frm.locD I.frm.pL (λo e=>qr hm e) _,?_⟩) (by refine ab I.frm.kind ?_;rfl)
  have nq:∀o xs k,s.heap.get? aa.locals=some o->o.data≠.seq xs k:=λo xs k e=>mS hm e
  have na:∀o b,s.heap.get? aa.locals=some o->o≠d9 b:=λo b e=>tE hm e
  refine⟨I.frm.kind,I.frm.glob,I.frm.bins,I.frm.loc,I.frm.locD,⟨_,hn,λy l' e=>?_⟩,λy cl h1 h2=>?_,I.frm.cD,I.frm.cinj,λy a e=>?_,I.frm.oinj,I.frm.pL,I.frm.pC,I.frm.pO,λp hp=>(I.frm.held p hp).mono (lq hs (λ_ q=>q) λ_=>nq)⟩
  ·rw[ai]at e
   by_cases ci:x=y
   ·subst ci
    replace e:=(if_pos rfl)▸e;exact aC e<|aJ v (.inl ⟨hx,by simp⟩) (hl.sameBut hs nq na)
   ·rw[if_neg ci]at e
    refine ah (hv y l' e) λv' h1 h2=>aJ v' ?_ (h2.sameBut hs nq na)
    rcases h1 with⟨k1,k2⟩ | ⟨k1,cl,k2,k3⟩ | k1
    ·refine .inl ⟨k1,?_⟩
     refine(?_:(if Str.ofString y=Str.ofString x then some v else m (Str.ofString y))=some v')
     exact ab (if_neg (λq=>ci (pN q).symm)) k2
    ·exact .inr (.inl ⟨k1,cl,k2,k3.sameBut hs (mJ hm k3)⟩)
    ·exact .inr (.inr k1)
  ·obtain⟨v',h4⟩:=I.frm.cnew y cl h1 h2
   exact nP v' (h4.sameBut hs (mJ hm h4))
  ·refine bB (I.frm.onew y a e) λh1 h2 ar=>aW ar λxs h3=>?_
   exact dQ h1 h2 ⟨xs,jT hs (lB h3 nq) h3⟩
 ·refine ah hc λcl dS gf=>?_
  obtain⟨v₀,hv₀⟩:=I.frm.cnew _ cl dS gf
  refine wpAny_storeName_cell I.frm.kind hx dS hv₀ λh' hcell hs=>(λz=>h _ z λa xs pl=>jT hs (lB pl λo ys k e=>sQ hv₀ e) pl) ⟨I.ok,I.oin,oi I.ok I.bs hs gf (I.frm.cD _ _ dS) (I.frm.pC _ _ dS gf) (λo e=>E8 hv₀ e) _,?_⟩
  have nq:∀o xs k,s.heap.get? cl=some o->o.data≠.seq xs k:=λo xs k e=>sQ hv₀ e
  have na:∀o b,s.heap.get? cl=some o->o≠d9 b:=λo b e=>DJ hv₀ e
  refine⟨I.frm.kind,I.frm.glob,I.frm.bins,I.frm.loc,I.frm.locD,⟨m,hm.sameBut hs (Ne.symm (mJ hm hv₀)),λy l' e=>?_⟩,λy cl' h1 h2=>?_,I.frm.cD,I.frm.cinj,λy a e=>?_,I.frm.oinj,I.frm.pL,I.frm.pC,I.frm.pO,λp hp=>(I.frm.held p hp).mono (lq hs (λ_ q=>q) λ_=>nq)⟩
  ·rw[ai]at e
   by_cases ci:x=y
   ·subst ci
    replace e:=(if_pos rfl)▸e;exact aC e<|aJ v (.inr (.inl ⟨.inl hx,cl,dS,hcell⟩)) (hl.sameBut hs nq na)
   ·rw[if_neg ci]at e
    refine ah (hv y l' e) λv' h1 h2=>aJ v' ?_ (h2.sameBut hs nq na)
    rcases h1 with h1 | ⟨k1,cl',k2,k3⟩ | k1
    ·exact .inl h1
    ·refine .inr (.inl ⟨k1,cl',k2,k3.sameBut hs λq=>?_⟩)
     cases q
     exact ci (pN (I.frm.cinj _ _ _ dS k2))
    ·exact .inr (.inr k1)
  ·by_cases q:cl'=cl
   ·exact ab q<|nP _ hcell
   ·obtain⟨v',h4⟩:=I.frm.cnew y cl' h1 h2
    exact nP v' (h4.sameBut hs q)
  ·refine bB (I.frm.onew y a e) λh1 h2 ar=>aW ar λxs h3=>?_
   exact dQ h1 h2 ⟨xs,jT hs (lB h3 nq) h3⟩
theorem p8{s:Shared}{ow:Ow}{x:String}{v:Value}{l:LV}{A:Around}{Q:Unit->Shared->Prop}{E:Value->Shared->Prop}(I:Inv c aa Z ow s)(hx:cr c aa x)
  (hl:ig c ow s.heap x v l) (h:∀s',Inv c aa (upd Z x l) ow s'->Q () s'):wpAny (model pg c.w) A (storeName aa (Str.ofString x) v) Q E s:=C1 I hx hl λs' I' _=>h s' I'
theorem fK{s:Shared}{ow:Ow}{x:String}{v:Value}{d:D}{A:Around}{Q:Unit->Shared->Prop}{E:Value->Shared->Prop}(I:Inv c aa Z ow s)(hx:cr c aa x)
  (r:ag s.heap (av c ow) v d) (h:∀s',Inv c aa (upd Z x (.d d)) ow s'->Q () s'):wpAny (model pg c.w) A (storeName aa (Str.ofString x) v) Q E s:=
 p8 I hx (l:=.d d) r h
end
end
section
section
variable {c:Cx} {n:Nat} {aa:Env} {Z:Ctx}
theorem Inv.sub{af:Ctx}{ow:Ow}{s:Shared}(I:Inv c aa Z ow s)(h:∀y l,find af y=some l->find Z y=some l):Inv c aa af ow s:=
 ⟨I.ok,I.oin,I.bs,I.frm.kind,I.frm.glob,I.frm.bins,I.frm.loc,I.frm.locD,ah I.frm.ns λm hm hv=>⟨m,hm,λx l e=>hv x l (h x l e)⟩,I.frm.cnew,I.frm.cD,I.frm.cinj,I.frm.onew,I.frm.oinj,I.frm.pL,I.frm.pC,I.frm.pO,I.frm.held⟩
noncomputable def d5:Ctx->String->Ctx
 | [],_=>[]
 | (y,l)::r,x=>if y=x then d5 r x else(y,l)::d5 r x
theorem jt(Z:Ctx)(x y:String):find (d5 Z x) y=if x=y then none else find Z y:=by
 induction Z with
 | nil=>refine bq (λ_=>?_) λ_=>?_<;>rfl
 | cons p r ih=>
  obtain⟨z,m⟩:=p
  refine(?_:find (if z=x then d5 r x else(z,m)::d5 r x) y=if x=y then none else if z=y then some m else find r y)
  by_cases hz:z=x
  ·refine ab hz<|ab (if_pos rfl)<|ab ih ?_
   split<;>rfl
  ·refine ab (if_neg hz)<|(?_:(if z=y then some m else find (d5 r x) y)=_)
   refine ab ih ?_
   by_cases hy:z=y
   ·refine rB hy<|ab (if_pos rfl)<|ab (if_pos rfl) ?_;rw[if_neg (λe=>hz e.symm)]
   ·refine ab (if_neg hy) ?_;rw[if_neg hy]
noncomputable def dU(Z:Ctx)(x:String):Prop:=∀p∈Z,∀y,p.2=.app y->y≠x
theorem tL{Z:Ctx}{x:String}{l:LV}(e:find Z x=some l):∃p∈Z,p.2=l:=by
 induction Z with
 | nil=>exact nS e
 | cons p r ih=>
  obtain⟨z,m⟩:=p
  have e':(if z=x then some m else find r x)=some l:=e
  split at e'
  ·exact aC e'<|aJ _ List.mem_cons_self rfl
  ·exact ah (ih e') λq h1 h2=>aJ q (List.mem_cons_of_mem _ h1) h2
noncomputable def gS(ow:Ow)(x:String)(a:Addr):Ow:=λy=>if y=x then some a else ow y
theorem Inv.alloc{ow:Ow}{s:Shared}{x:String}(I:Inv c aa Z ow s)(ha:dU Z x):
  Inv c aa (d5 Z x) (gS ow x s.heap.objs.size) {s with heap:=s.heap.push {cls:=.type "list",data:=.seq #[]}}:=by
 let o:Obj:={cls:=.type "list",data:=.seq #[]}
 have st:Step c s {s with heap:=s.heap.push o}:=Step.push I.ok o s.toks
 have I1:=I.step st
 have iM:jN s.heap (s.heap.push o) (av c ow) (av c (gS ow x s.heap.objs.size)):=λb ob xs k e hd hb=>by
  refine⟨Heap.get?_push_of_some _ e,?_⟩
  rintro(q | ⟨z,q⟩)
  ·exact hb (.inl q)
  ·unfold gS at q
   split at q
   ·obtain rfl:=Option.some.inj q;exact Nat.lt_irrefl _ (Heap.lt_size e)
   ·exact hb (.inr ⟨z,q⟩)
 refine⟨I.ok,I.oin,I1.bs,I.frm.kind,I.frm.glob,I.frm.bins,I.frm.loc,I.frm.locD,?_,I1.frm.cnew,I.frm.cD,I.frm.cinj,?_,?_,I.frm.pL,I.frm.pC,λy a e=>?_,λp hp=>(I.frm.held p hp).mono iM⟩
 ·refine ah I.frm.ns λm hm hv=>aJ m (hm.push o) (λy l e=>?_)
  rw[jt]at e
  by_cases ci:x=y
  ·replace e:=(if_pos ci)▸e;exact nS e
  ·replace e:=(if_neg ci)▸e
   refine ah (hv y l e) λv h1 h2=>aJ v (h1.kp I.ok I.frm.cD st.kp) ?_
   cases l with
   | d d=>exact ag.mono iM h2
   | own ds=>
    exact cf h2 λa vs e1 e2 e3 e4=>il a vs e1 (by unfold gS;exact ab (if_neg (λq=>ci q.symm))<|e2) (e3.push o) (aq.mono iM e4)
   | app z=>
    refine cf h2 λb a e1 e2 e3 e4=>ah (tL e) λp hp he=>?_
    exact il b a e1 (by unfold gS;exact ab (if_neg (ha p hp z he))<|e2) (Heap.get?_push_of_some _ e3) e4
 ·intro y a e
  unfold gS at e
  split at e
  ·exact aC e<|dQ I.bs.size I.freshD ⟨_,(⟨0,Heap.get?_push_size _ rfl⟩:PL (s.heap.push o) s.heap.objs.size #[])⟩
  ·refine bB (I.frm.onew y a e) λh1 h2 ar=>aW ar λxs h3=>?_
   exact dQ h1 h2 ⟨xs,h3.push o⟩
 ·intro y z a e1 e2
  have no:∀u,ow u≠some s.heap.objs.size:=λu q=>by
   refine bB (I.frm.onew u _ q) λ_ _ ar=>cY ar λxs ob h3=>?_
   exact Nat.lt_irrefl _ (Heap.lt_size h3)
  unfold gS at e1 e2
  split at e1<;>split at e2
  ·rename_i h1 h2;refine ab h1 ?_;rw[h2]
  ·obtain rfl:=Option.some.inj e1;exact absurd e2 (no _)
  ·obtain rfl:=Option.some.inj e2;exact absurd e1 (no _)
  ·exact I.frm.oinj y z a e1 e2
 ·unfold gS at e
  split at e
  ·exact aC e<|I.bs.mQ (Nat.le_refl _)
  ·exact I.frm.pO y a e
theorem lK{ow:Ow}{s:Shared}{x:String}{ds:List D}(I:Inv c aa Z ow s)(e:find Z x=some (.own ds)):∃a vs,ow x=some a/\PL s.heap a vs.toArray/\aq s.heap (av c ow) vs ds:=by
 refine ah I.frm.ns λm hm hv=>ah (hv x _ e) λv h1 ar=>cf ar λa vs h2 h3 h4 h5=>?_
 exact mA a vs h3 h4 h5
theorem Inv.turn{ow:Ow}{s:Shared}{x:String}{ds ds':List D}{a:Addr}{cu:List Value}(I:Inv c aa Z ow s)(e:find Z x=some (.own ds))(ea:ow x=some a){h':Heap}
  (hl:PL h' a cu.toArray) (hs:Heap.SameBut a s.heap h') (r:aq s.heap (av c ow) cu ds') (t:Nat) (ht:s.toks<=t:=by first | exact Nat.le_refl _ | exact Nat.le_succ _ | (lia)):
  Inv c aa (upd Z x (.own ds')) ow {s with heap:=h',toks:=t}:=by
 refine bB (I.frm.onew x a ea) λgf hD ar=>?_;obtain⟨xs₀,hl₀⟩:=ar
 have iM:jN s.heap h' (av c ow) (av c ow):=lq hs (λ_ q=>q) λq=>absurd (.inr ⟨x,ea⟩:av c ow a) q
 refine ah I.frm.ns λm hm hv=>?_
 have hLa:aa.locals≠a:=by
  rintro rfl
  exact aW hl₀ λk e=>mS hm e rfl
 have cell_ne:∀{cl:Addr} {v:Option Value},s.heap.IsCell cl v->cl≠a:=by
  rintro cl v h rfl
  exact aW hl₀ λk e=>sQ h e rfl
 refine⟨I.ok,I.oin,oi I.ok I.bs hs gf hD (I.frm.pO _ _ ea) (λo e=>EG hl₀ e) t ht,I.frm.kind,I.frm.glob,I.frm.bins,I.frm.loc,I.frm.locD,⟨m,hm.sameBut hs hLa,λy l el=>?_⟩,λy cl h1 h2=>?_,I.frm.cD,I.frm.cinj,λy b eb=>?_,I.frm.oinj,I.frm.pL,I.frm.pC,I.frm.pO,λp hp=>(I.frm.held p hp).mono iM⟩
 ·have kp:∀{v},nA aa s.heap m y v->nA aa h' m y v:=λ{v} q=>by
   rcases q with q | ⟨k1,cl,k2,k3⟩ | q
   ·exact .inl q
   ·exact .inr (.inl ⟨k1,cl,k2,k3.sameBut hs (cell_ne k3)⟩)
   ·exact .inr (.inr q)
  rw[ai]at el
  by_cases ci:x=y
  ·subst ci
   replace el:=(if_pos rfl)▸el;refine aC el<|ah (hv x _ e) λv h1 ar=>cf ar λb vs h2 h3 h4 h5=>?_
   replace h3:=ea▸h3;obtain rfl:=Option.some.inj h3
   exact aJ v (kp h1) ⟨a,cu,h2,ea,hl,r.mono iM⟩
  ·replace el:=(if_neg ci)▸el
   refine ah (hv y l el) λv h1 h2=>aJ v (kp h1) ?_
   cases l with
   | d d=>exact ag.mono iM h2
   | own es=>
    exact cf h2 λb vs e1 e2 e3 e4=>il b vs e1 e2 (jT hs (λq=>ci (I.frm.oinj x y a ea (q▸e2))) e3) (aq.mono iM e4)
   | app z=>
    refine cf h2 λb b' e1 e2 e3 e4=>il b b' e1 e2 ((hs.2 b (λq=>?_)).trans e3) e4
    cases q
    refine aW hl₀ λk e=>?_
    rw[e3]at e
    have:=congrArg (λo=>o.map Obj.data) e
    cases this
 ·obtain⟨v',h4⟩:=I.frm.cnew y cl h1 h2
  exact nP v' (h4.sameBut hs (cell_ne h4))
 ·refine bB (I.frm.onew y b eb) λh1 h2 ar=>aW ar λxs h3=>?_
  by_cases q:b=a
  ·subst q;exact dQ h1 h2 ⟨_,hl⟩
  ·exact dQ h1 h2 ⟨xs,jT hs q h3⟩
theorem pY{ow:Ow}{s:Shared}{x:String}{ds:List D}{a:Addr}{v:Value}{d:D}{A:Around}{Q:Value->Shared->Prop}{E:Value->Shared->Prop}(I:Inv c aa Z ow s)(e:find Z x=some (.own ds))(ea:ow x=some a)
  (r:ag s.heap (av c ow) v d) (hz:ds.length<=1000000) (h:∀s',Inv c aa (upd Z x (.own (ds++[d]))) ow s'->Q .none s'):wpAny (model pg c.w) A (call (.builtin "list.append") [.ref a,v]) Q E s:=by
 refine cw (lK I e) λa' vs e1 hl rs=>?_
 replace e1:=ea▸e1;obtain rfl:=Option.some.inj e1
 refine wpAny_list_append_plain hl (λh' fC hs=>?_) (by exact ab List.size_toArray<|ab rs.length<|ab sizeLine_eq<|Nat.le_trans ‹_› (Nat.le_add_left _ _))
 rw[(by simp:vs.toArray.push v=(vs++[v]).toArray)]at fC
 exact h _ (I.turn e ea fC hs (rs.snoc r) s.toks)
theorem ly{P:az->Prop}(h:P (.next Z)):bS c n aa Z [] P:=⟨λA s Q E ow rm I k=>wpAny_execs_nil (k _ _ _ h ⟨ow,I⟩)⟩
theorem g7{st:Stmt}{ao:List Stmt}{P:az->Prop}(h:bY c n aa Z st λo=>match o with | .next af=>bS c n aa af ao P | o=>P o):bS c n aa Z (st::ao) P:=by
 refine⟨?_⟩
 intro A s Q E ow rm I k
 refine wpAny_execs_cons (h.run A s _ E ow rm I λf s' o ho ok=>?_)
 cases o with
 | next af=>
  cases f<;>first | exact ok.elim | skip
  exact aW ok λaH I'=>ho.run A s' Q E aH rm I' k
 | brk af=>cases f<;>first | exact k _ _ _ ho ok | exact ok.elim
 | cont af=>cases f<;>first | exact k _ _ _ ho ok | exact ok.elim
 | ret d=>cases f<;>first | exact k _ _ _ ho ok | exact ok.elim
theorem bS.mono{ss:List Stmt}{P P':az->Prop}(h:bS c n aa Z ss P)(k:∀o,P o->P' o):bS c n aa Z ss P':=⟨λA s Q E ow rm I q=>h.run A s Q E ow rm I λf s' o ho ok=>q f s' o (k o ho) ok⟩
theorem bS.sub{af:Ctx}{ss:List Stmt}{P:az->Prop}(h:bS c n aa af ss P)(k:∀y l,find af y=some l->find Z y=some l):bS c n aa Z ss P:=⟨λA s Q E ow rm I q=>h.run A s Q E ow rm (I.sub k) q⟩
theorem kH{st:Stmt}{P:az->Prop}(h:bY c n aa Z st P):bS c n aa Z [st] P:=g7 ⟨λA s Q E ow rm I k=>h.run A s Q E ow rm I λf s' o ho ok=>k f s' o (by cases o<;>first | exact ho | exact ly ho) ok⟩
theorem tn{x:String}{p pos:Pos}{e:Expr}{d:D}{P:az->Prop}(h1:Ev c n aa Z e (.d d))(hx:cr c aa x)(h2:P (.next (upd Z x (.d d))))
  (hs:swapsWith e (some (.Name (Str.ofString x) p)) pos.line aa=pure false:=by rfl):bY c n aa Z (.Assign [.Name (Str.ofString x) p] e pos) P:=
 ⟨λA s Q E ow rm I k=>wpAny_Assign_Name (h1.run A s _ E ow rm I λv s1 r st=>fK (I.step st) hx r λs2 I2=>k _ _ _ h2 ⟨ow,I2⟩) hs⟩
theorem Lz{x:String}{p p' pos:Pos}{P:az->Prop}(ha:dU Z x)(hx:cr c aa x)(h2:P (.next (upd Z x (.own [])))):bY c n aa Z (.Assign [.Name (Str.ofString x) p] (.List [] p') pos) P:=by
 refine⟨?_⟩
 intro A s Q E ow rm I k
 refine wpAny_Assign_Name (List_ (spliced_nil ?_)) rfl
 refine wpAny_newObj_type ?_ (by size_fits)
 refine p8 (l:=.own []) (I.alloc ha) hx ⟨_,[],rfl,by unfold gS;exact ab (if_pos rfl) rfl,⟨_,Heap.get?_push_size _ rfl⟩,.nil⟩ λs2 I2=>k _ _ _ h2 ⟨_,I2.sub λy l e=>?_⟩
 rw[ai]at e⊢
 rw[jt]
 refine bq (λ_=>?_) λ_=>?_<;>simp_all
theorem LA{x:String}{p pos:Pos}{op:Operator}{e:Expr}{l:LV}{a:LV}{d:D}{P:az->Prop}(h0:find Z x=some a)(h1:Ev c n aa Z e l)(h3:be c n (inplaceOp op) a l (.d d))(hx:cr c aa x)(h2:P (.next (upd Z x (.d d))))(hg:eu x:=by unfold eu;decide+kernel):
  bY c n aa Z (.AugAssign (.Name (Str.ofString x) p) op e pos) P:=by
 refine⟨?_⟩
 intro A s Q E ow rm I k
 have lo:∀(Q:Value->Shared->Prop),(∀v,bL c ow s.heap v a->Q v s)->wpAny (model pg c.w) A (loadName aa (Str.ofString x)) Q E s:=λQ q=>by
  refine ah I.frm.ns λm hm hv=>ah (hv x _ h0) λv h1 h2=>?_
  rcases h1 with⟨k,e⟩ | ⟨k | k,cl,e1,e2⟩ | k
  ·exact wpAny_loadName_local I.frm.kind k hm e (q v h2.lv)
  ·exact wpAny_loadName_cell I.frm.kind k e1 e2 (q v h2.lv)
  ·exact wpAny_loadName_free I.frm.kind k e1 e2 (q v h2.lv) hg.2.2
  ·exact absurd k hg.1
 refine wpAny_AugAssign_Name (lo _ λold ro=>h1.run A s _ E ow rm I λv s1 rv al=>h3 aa Z A s1 _ E ow old v rm (I.step al) (ro.inv I al) rv λz s2 rz aG=>?_)
 exact fK ((I.step al).step aG) hx rz λs3 I3=>k _ _ _ h2 ⟨ow,I3⟩
theorem nF{t:Expr}{b o:List Stmt}{pos:Pos}{a:Bool}{P:az->Prop}(h0:Cd c n aa Z t a)(h1:a=true->bS c n aa Z b P)(h2:a=false->bS c n aa Z o P):bY c n aa Z (.If t b o pos) P:=by
 refine⟨?_⟩
 intro A s Q E ow rm I k
 refine wpAny_If (h0 A s _ E ow rm I λs1 st=>?_)
 cases a with
 | true=>exact(h1 rfl).run A s1 Q E ow rm (I.step st) k
 | false=>exact(h2 rfl).run A s1 Q E ow rm (I.step st) k
theorem jX{e:Expr}{pos:Pos}{l:LV}{d:D}{P:az->Prop}(h1:Ev c n aa Z e l)(hl:l=.d d∨∃ds,l=.own ds/\d=.list ds)(h2:P (.ret d)):bY c n aa Z (.Return (some e) pos) P:=by
 refine⟨?_⟩
 intro A s Q E ow rm I k
 refine wpAny_Return_some (h1.run A s _ E ow rm I λv s1 r st=>k _ _ _ h2 ⟨(I.step st).bs,?_⟩)
 rcases hl with rfl | ⟨ds,rfl,rfl⟩
 ·exact ag.less r λa q=>.inl q
 ·refine rO r λx a vs e1 e2 e3 e4=>ab e1<| .list (λq=>?_) e3 (e4.less λa q=>.inl q)
  exact absurd (I.oin a q) (Nat.not_lt.mpr ((I.frm.onew x a e2).1))
theorem JN{pos:Pos}{P:az->Prop}(h:P (.next Z)):bY c n aa Z (.Pass pos) P:=⟨λA s Q E ow rm I k=>wpAny_Pass (k _ _ _ h ⟨ow,I⟩)⟩
theorem HR{pos:Pos}{P:az->Prop}(h:P (.brk Z)):bY c n aa Z (.Break pos) P:=⟨λA s Q E ow rm I k=>wpAny_Break (k _ _ _ h ⟨ow,I⟩)⟩
theorem FO{t:Expr}{m:Option Expr}{pos:Pos}{P:az->Prop}(h0:Cd c n aa Z t true)(h:P (.next Z)):bY c n aa Z (.Assert t m pos) P:=⟨λA s Q E ow rm I k=>
 wpAny_Assert_holds (h0 A s _ E ow rm I λs1 st=>by first | exact⟨rfl,k _ _ _ h ⟨ow,I.step st⟩⟩ | exact k _ _ _ h ⟨ow,I.step st⟩)⟩
end
end
section
noncomputable abbrev S(l:List Nat):Str:=⟨l.toArray⟩
noncomputable abbrev sd(l:List Nat):D:=.str (S l)
noncomputable abbrev NM(l:List Int):D:=.list (l.map .int)
theorem i6(x:Str):x=S x.cps.toList:=by cases x;rfl
theorem dq(l:List Nat):(S l).length=l.length:=by show l.toArray.size=_;simp
theorem uQ(a b:List Nat):S a++S b=S (a++b):=by
 refine(?_:(⟨a.toArray++b.toArray⟩:Str)=_)
 simp
theorem o4{a b:List Nat}(h:S a=S b):a=b:=by simpa[S]using h
section
variable {c:Cx} {n:Nat}
theorem qF(a b:Int):be c n (binaryOp .Add) (.d (.int a)) (.d (.int b)) (.d (.int (a+b))):=by
 intro aa Z A s Q E ow va vb rm I ra rb h;refine ag.bf ra λ_=>ag.bf rb λ_=>?_;exact P.add_int (h _ _ (.int _ _) (.tok I.ok _))
theorem zy(a b:Int):be c n (binaryOp .Sub) (.d (.int a)) (.d (.int b)) (.d (.int (a - b))):=by
 intro aa Z A s Q E ow va vb rm I ra rb h;refine ag.bf ra λ_=>ag.bf rb λ_=>?_;exact P.sub_int (h _ _ (.int _ _) (.tok I.ok _))
theorem J5{a b:Int}(hb:b.natAbs < 2 ^ 60):be c n (binaryOp .Mult) (.d (.int a)) (.d (.int b)) (.d (.int (a * b))):=by
 intro aa Z A s Q E ow va vb rm I ra rb h;refine ag.bf ra λ_=>ag.bf rb λ_=>?_
 exact P.mul_int (h _ _ (.int _ _) (.tok I.ok _)) (IntMulOk.of_right (intBits_le_64 (by omega) (by omega)))
theorem Cr{a b:Int}(h0:b≠0)(hb:b.natAbs < 1073741824):be c n (binaryOp .FloorDiv) (.d (.int a)) (.d (.int b)) (.d (.int (a.fdiv b))):=by
 intro aa Z A s Q E ow va vb rm I ra rb h;refine ag.bf ra λ_=>ag.bf rb λ_=>?_
 exact floordiv_int h0 (h _ _ (.int _ _) (.tok I.ok _)) (.inl (PyProof.noPylong_small hb))
theorem J6{a b:Int}(h0:b≠0):be c n (binaryOp .Mod) (.d (.int a)) (.d (.int b)) (.d (.int (a.fmod b))):=by
 intro aa Z A s Q E ow va vb rm I ra rb h;refine ag.bf ra λ_=>ag.bf rb λ_=>?_
 exact mod_int' h0 (h _ _ (.int _ _) (.tok I.ok _))
theorem J7(a b:Int):be c n (binaryOp .BitAnd) (.d (.int a)) (.d (.int b)) (.d (.int (Builtin.bitAnd a b))):=by
 intro aa Z A s Q E ow va vb rm I ra rb h;refine ag.bf ra λ_=>ag.bf rb λ_=>?_;exact and_int (h _ _ (.int _ _) (.tok I.ok _))
theorem LJ(a b:Int):be c n (binaryOp .BitOr) (.d (.int a)) (.d (.int b)) (.d (.int (Builtin.bitOr a b))):=by
 intro aa Z A s Q E ow va vb rm I ra rb h;refine ag.bf ra λ_=>ag.bf rb λ_=>?_;exact or_int (h _ _ (.int _ _) (.tok I.ok _))
theorem J3{a b:Int}(h0:0<=b)(h1:b<=1000)(ha:a.natAbs < 2 ^ 64):be c n (binaryOp .LShift) (.d (.int a)) (.d (.int b)) (.d (.int (a * 2 ^ b.toNat))):=by
 intro aa Z A s Q E ow va vb rm I ra rb h;refine ag.bf ra λ_=>ag.bf rb λ_=>?_;exact lshift_int_small h0 (by lia) ha (h _ _ (.int _ _) (.tok I.ok _))
theorem J2{a b:Int}(h0:0<=b):be c n (binaryOp .RShift) (.d (.int a)) (.d (.int b)) (.d (.int (a.fdiv (2 ^ b.toNat)))):=by
 intro aa Z A s Q E ow va vb rm I ra rb h;refine ag.bf ra λ_=>ag.bf rb λ_=>?_;exact rshift_int h0 (h _ _ (.int _ _) (.tok I.ok _))
theorem J4{a b:Int}(h0:0<=b)(h1:b<=1000)(ha:a.natAbs < 2 ^ 64):be c n (binaryOp .Pow) (.d (.int a)) (.d (.int b)) (.d (.int (a ^ b.toNat))):=by
 intro aa Z A s Q E ow va vb rm I ra rb h;refine ag.bf ra λ_=>ag.bf rb λ_=>?_;exact pow_int_small h0 (by lia) ha (h _ _ (.int _ _) (.tok I.ok _))
theorem zz(a:Int):AX c n (unaryOp .USub) (.d (.int a)) (.d (.int (-a))):=by
 intro aa Z A s Q E ow va rm I ra h;exact ag.bf ra λ_=>P.neg_int (h _ _ (.int _ _) (.tok I.ok _))
theorem H0(a b:Int):be c n (inplaceOp .Add) (.d (.int a)) (.d (.int b)) (.d (.int (a+b))):=by
 intro aa Z A s Q E ow va vb rm I ra rb h;refine ag.bf ra λ_=>ag.bf rb λ_=>?_;exact P.iadd_int (h _ _ (.int _ _) (.tok I.ok _))
theorem LK(a b:Int):be c n (compareOp .Lt) (.d (.int a)) (.d (.int b)) (.d (.bool (decide (a < b)))):=by
 intro aa Z A s Q E ow va vb rm I ra rb h;refine ag.bf ra λ_=>ag.bf rb λ_=>?_;exact P.lt_int (h _ _ (.bool _) (.refl _ _))
theorem LL(a b:Int):be c n (compareOp .LtE) (.d (.int a)) (.d (.int b)) (.d (.bool (decide (a<=b)))):=by
 intro aa Z A s Q E ow va vb rm I ra rb h;refine ag.bf ra λ_=>ag.bf rb λ_=>?_;exact P.le_int (h _ _ (.bool _) (.refl _ _))
theorem LM(a b:Int):be c n (compareOp .Gt) (.d (.int a)) (.d (.int b)) (.d (.bool (decide (a > b)))):=by
 intro aa Z A s Q E ow va vb rm I ra rb h;refine ag.bf ra λ_=>ag.bf rb λ_=>?_;exact P.gt_int (h _ _ (.bool _) (.refl _ _))
theorem LN(a b:Int):be c n (compareOp .GtE) (.d (.int a)) (.d (.int b)) (.d (.bool (decide (a >= b)))):=by
 intro aa Z A s Q E ow va vb rm I ra rb h;refine ag.bf ra λ_=>ag.bf rb λ_=>?_;exact P.ge_int (h _ _ (.bool _) (.refl _ _))
theorem Ew(a b:Int):be c n (compareOp .Eq) (.d (.int a)) (.d (.int b)) (.d (.bool (a==b))):=by
 intro aa Z A s Q E ow va vb rm I ra rb h;refine ag.bf ra λ_=>ag.bf rb λ_=>?_;exact P.eq_int (h _ _ (.bool _) (.refl _ _))
theorem xb(a b:Int):be c n (compareOp .NotEq) (.d (.int a)) (.d (.int b)) (.d (.bool (a !=b))):=by
 intro aa Z A s Q E ow va vb rm I ra rb h;refine ag.bf ra λ_=>ag.bf rb λ_=>?_;exact P.ne_int (h _ _ (.bool _) (.refl _ _))
theorem Hx(a:Int):ll c n (.d (.int a)) (a !=0):=by
 intro aa Z A s Q E ow va rm I ra h;exact ag.bf ra λ_=>P.truthy_int (h _ (.refl _ _))
theorem xJ:ll c n (.d .none) false:=by
 intro aa Z A s Q E ow va rm I ra h;exact ag.uG ra<|truthy_none (h _ (.refl _ _))
theorem tg(b:Bool):ll c n (.d (.bool b)) b:=by
 intro aa Z A s Q E ow va rm I ra h;exact ag.l9 ra<|wpAny_truthy_bool (h _ (.refl _ _))
theorem wx(a b:Bool):be c n (compareOp .Eq) (.d (.bool a)) (.d (.bool b)) (.d (.bool (a==b))):=by
 intro aa Z A s Q E ow va vb rm I ra rb h;exact ag.l9 ra<|ag.l9 rb<|eq_bool (h _ _ (.bool _) (.refl _ _))
noncomputable def isNone:LV->Bool
 | .d .none=>true
 | _=>false
theorem DR{O:Addr->Prop}{h:Heap}{v:Value}{d:D}(r:rF h O d v):(v==.none)=isNone (.d d):=by
 cases d
 case int=>exact r.elim λ_ e=>ab e rfl
 case str=>exact r.elim λ_ e=>ab e rfl
 case bytes=>exact r.elim λ_ e=>ab e rfl
 case obj=>exact r.elim λ_ e=>ab e rfl
 case raw=>exact r.elim λ_ r=>r.elim λ_ r=>ab r.1 rfl
 case list=>exact r.elim λ_ r=>r.elim λ_ r=>ab r.1 rfl
 case tup=>exact r.elim λ_ r=>r.elim λ_ r=>ab r.1 rfl
 all_goals exact ab r rfl
theorem xH{ow:Ow}{h:Heap}{v:Value}{l:LV}(r:bL c ow h v l):(v==.none)=isNone l:=by
 cases l with
 | d d=>exact DR r.run
 | own ds=>exact fz r λx a vs e _=>ab e rfl
 | app y=>exact cR r λb a e _=>ab e rfl
theorem sF(l:LV):be c n (compareOp .Is) l (.d .none) (.d (.bool (isNone l))):=by
 intro aa Z A s Q E ow va vb rm I ra rb h;exact ag.uG rb<|is_none_gen (by exact ab (xH ra)<|h _ _ (.bool _) (.refl _ _))
theorem Bu(l:LV):be c n (compareOp .IsNot) l (.d .none) (.d (.bool (!isNone l))):=by
 intro aa Z A s Q E ow va vb rm I ra rb h;exact ag.uG rb<|isnot_none_gen (by exact ab (xH ra)<|h _ _ (.bool _) (.refl _ _))
theorem mN(a b:List Nat):be c n (compareOp .Eq) (.d (sd a)) (.d (sd b)) (.d (.bool (a==b))):=by
 intro aa Z A s Q E ow va vb rm I ra rb h;refine ag.bw ra λ_=>ag.bw rb λ_=>?_;exact P.eq_str (by exact h _ _ (.bool _) (.refl _ _))
theorem Et(a b:List Nat):be c n (compareOp .NotEq) (.d (sd a)) (.d (sd b)) (.d (.bool (a !=b))):=by
 intro aa Z A s Q E ow va vb rm I ra rb h;refine ag.bw ra λ_=>ag.bw rb λ_=>?_;exact P.ne_str (by exact h _ _ (.bool _) (.refl _ _))
theorem yr{ow:Ow}{s:Shared}{aa:Env}{Z:Ctx}(I:Inv c aa Z ow s){a b:List Nat}{t u:Tok}{Q:Value->Shared->Prop}(hs:a.length+b.length<=1000000)(h:∀v s',bL c ow s'.heap v (.d (sd (a++b)))->Step c s s'->Q v s'):
  (if(S a).length==0 then Made.val (.str (S b) u)else if(S b).length==0 then Made.val (.str (S a) t)else Made.str (S a++S b)).post Q s:=by
 rw[dq,dq]
 by_cases h1:a.length=0
 ·have:a=[]:=List.length_eq_zero_iff.mp h1
  subst this
  exact h _ _ (.str _ _) (.refl _ _)
 ·have e1:(a.length==0)=false:=by simpa using h1
  by_cases h2:b.length=0
  ·have:b=[]:=List.length_eq_zero_iff.mp h2
   subst this
   simp only[e1,List.length_nil,beq_self_eq_true,if_true,if_false,Bool.false_eq_true]
   exact(h (.str (S a) t) s (by rw[List.append_nil];exact .str _ _) (.refl _ _))
  ·skip
   simp only[e1,(by simpa using h2:(b.length==0)=false),if_false,Bool.false_eq_true]
   rw[uQ]
   exact⟨by rw[dq,List.length_append,sizeLine_eq];exact Nat.le_trans ‹_› (Nat.le_add_left _ _),h _ _ (.str _ _) (.tok I.ok _)⟩
theorem zA(a b:List Nat)(hs:a.length+b.length<=1000000):be c n (binaryOp .Add) (.d (sd a)) (.d (sd b)) (.d (sd (a++b))):=by
 intro aa Z A s Q E ow va vb rm I ra rb h;refine ag.bw ra λ_=>ag.bw rb λ_=>?_;exact P.add_str (yr I hs h)
theorem yK(a b:List Nat)(hs:a.length+b.length<=1000000):be c n (inplaceOp .Add) (.d (sd a)) (.d (sd b)) (.d (sd (a++b))):=by
 intro aa Z A s Q E ow va vb rm I ra rb h;refine ag.bw ra λ_=>ag.bw rb λ_=>?_;exact P.iadd_str (yr I hs h)
theorem xc(x:Nat)(l:List Nat):be c n (compareOp .In) (.d (sd [x])) (.d (sd l)) (.d (.bool (decide (x∈l)))):=by
 intro aa Z A s Q E ow va vb rm I ra rb h;refine ag.bw ra λ_=>ag.bw rb λ_=>P.in_str<|ab (show(S [x])=⟨#[x]⟩from rfl)<|ab (StrLaws.found_one (S l) x) ?_
 exact h _ _ (.bool _) (.refl _ _)
theorem BZ(x:Nat)(l:List Nat):be c n (compareOp .NotIn) (.d (sd [x])) (.d (sd l)) (.d (.bool (!decide (x∈l)))):=by
 intro aa Z A s Q E ow va vb rm I ra rb h;refine ag.bw ra λ_=>ag.bw rb λ_=>P.notIn_str<|ab (show(S [x])=⟨#[x]⟩from rfl)<|ab (StrLaws.found_one (S l) x) ?_
 exact h _ _ (.bool _) (.refl _ _)
theorem Hw(a:List Nat)(hs:a.length<=1000000):ll c n (.d (sd a)) (!a.isEmpty):=by
 intro aa Z A s Q E ow va rm I ra h;refine ag.bw ra λ_=>P.truthy_str (by rw[dq];lia) ?_
 rw[dq]
 have:((a.length:Int)!=0)=!a.isEmpty:=by cases a<;>rfl<;>lia
 exact ab this<|h _ (.tok I.ok _)
theorem bL.eq{ow:Ow}{h:Heap}{v:Value}{l:LV}{ds:List D}(r:bL c ow h v l)(hl:l=.d (.list ds)∨l=.own ds):∃a vs,v=.ref a/\PL h a vs.toArray/\aq h (av c ow) vs ds:=by
 rcases hl with rfl | rfl
 ·exact ag.listE r λ_ _ h1 h2 h3=>mA _ _ rfl h2 h3
 ·exact rO r λx a vs e _ h2 h3=>mA a vs e h2 h3
noncomputable abbrev dh(l:LV)(ds:List D):Prop:=l=.d (.list ds)∨l=.own ds
theorem fm(ds:List D):dh (.d (.list ds)) ds:=.inl rfl
theorem Nv(ds:List D):dh (.own ds) ds:=.inr rfl
theorem xK{l:LV}{ds:List D}(hl:dh l ds)(hs:ds.length<=1000000):ll c n l (!ds.isEmpty):=by
 intro aa Z A s Q E ow va rm I ra h
 refine cw (ra.eq hl) λa vs am h1 h2=>ab am ?_
 have aV:=h2.length
 refine wpAny_truthy_list h1.isList (by refine ab List.size_toArray ?_;lia) ?_
 have:(!vs.toArray.isEmpty)=!ds.isEmpty:=by
  cases vs<;>cases ds<;>simp at aV⊢
 exact ab this<|h _ (.tok I.ok _)
theorem om{aa:Env}{Z:Ctx}{ow:Ow}{s:Shared}(I:Inv c aa Z ow s){vs:List Value}{ds:List D}(r:aq s.heap (av c ow) vs ds){xs:Array Value}(hx:xs=vs.toArray:=by rfl):
  ag (s.heap.push {cls:=.type "list",data:=.seq xs}) (av c ow) (.ref s.heap.objs.size) (.list ds):=
 .list I.fresh ⟨0,hx▸Heap.get?_push_size _ rfl⟩ (r.mono λb ob xs j e _ hb=>⟨Heap.get?_push_of_some _ e,hb⟩)
theorem sU{a b:LV}{ds es:List D}(ha:dh a ds)(hb:dh b es)(hs:ds.length+es.length<=1000000):be c n (binaryOp .Add) a b (.d (.list (ds++es))):=by
 intro aa Z A s Q E ow va vb rm I ra rb h
 refine cw (ra.eq ha) λa vs am dH r1=>ab am ?_;obtain⟨k1,e1⟩:=dH
 refine cw (rb.eq hb) λb ws am dH r2=>ab am ?_;obtain⟨k2,e2⟩:=dH
 have eN:=r1.length
 have eY:=r2.length
 refine P.add_list e1 e2 ?_ (by refine ab List.size_toArray<|ab List.size_toArray<|ab sizeLine_eq ?_;lia)
 exact h _ _ (om I (r1.append r2) (by simp)) (.push I.ok _ _)
end
end
open PySem.SeqAt
section
noncomputable def bA(d:D):D->Bool:=D.rec (motive_1:=λ_=>D->Bool) (motive_2:=λ_=>List D->Bool) (λ_=>false) (λ_ _=>false) (λi e=>(ml.m e).elim false λj:Int=>i==j) (λx e=>(pS.m e).elim false λy:Str=>x==y) (λ_ _=>false) (λ_ _=>false) (λ_ _=>false) (λ_ _=>false) (λ_=>false) (λ_ _ _=>false) (λ_ ih e=>(iB.m e).elim false ih) (λ_ _ _=>false) (λes=>es.isEmpty) (λ_ _ i1 i2 es=>es.rec false λe es _=>i1 e&&i2 es) d
noncomputable def eB(a b:List D):Bool:=bA (.list a) (.list b)
theorem oo(x y:D)(xs ys:List D):eB (x::xs) (y::ys)=(bA x y&&eB xs ys):=rfl
theorem oT{α:Type}{o:Option α}{f:α->Bool}{G:Prop}(h:o.elim false f=true)(k:∀a,o=some a->f a=true->G):G:=by
 cases o with
 | none=>exact fT h
 | some a=>exact k a rfl h
theorem uu{d e:D}(h:bA d e=true):d=e:=
 D.rec (motive_1:=λd=>∀e,bA d e=true->d=e) (motive_2:=λa=>∀b,eB a b=true->a=b) (λ_ h=>fT h) (λ_ _ h=>fT h) (λi e h=>oT h λj h1 h2=>(congrArg D.int (eq_of_beq h2)).trans (ml.ok h1)) (λx e h=>oT h λj h1 h2=>(congrArg D.str (eq_of_beq h2)).trans (pS.ok h1)) (λ_ _ h=>fT h) (λ_ _ h=>fT h) (λ_ _ h=>fT h) (λ_ _ h=>fT h) (λ_ h=>fT h) (λ_ _ _ h=>fT h)
  (λa ih e h=>oT h λb h1 h2=>(congrArg D.list (ih b h2)).trans (iB.ok h1)) (λ_ _ _ h=>fT h) (λb h=>(List.isEmpty_iff.mp h).symm) (λd ds i1 i2 b h=>by
   cases b with
   | nil=>exact fT h
   | cons e es=>exact a2 h λh1 h2=>i1 e h1▸i2 es h2▸rfl) d e h
theorem GW{a b:List D}(h:eB a b=true):a.length=b.length:=congrArg List.length (D.list.inj (uu h))
noncomputable def nU(a b:List D)(j:Nat):Bool:=((a[j]?).bind λx=>(b[j]?).map λy=>bA x y).getD false
theorem GX{a b:List D}(h:a.length=b.length):eB a b=(List.range a.length).all (nU a b):=by
 induction a generalizing b with
 | nil=>cases b with
  | nil=>rfl
  | cons _ _=>exact nomatch h
 | cons x xs ih=>cases b with
  | nil=>exact nomatch h
  | cons y ys=>
   refine ab (oo x y xs ys) ?_
   rw[ih (Nat.succ.inj h),List.length_cons,List.range_succ_eq_map,List.all_cons,List.all_map]
   rfl
theorem EY{a b:List D}(h:a.length=b.length)(k:∀(j:Nat) (x y:D),a[j]? =some x->b[j]? =some y->bA x y=true):eB a b=true:=by
 induction a generalizing b with
 | nil=>cases b with
  | nil=>rfl
  | cons _ _=>exact nomatch h
 | cons x xs ih=>cases b with
  | nil=>exact nomatch h
  | cons y ys=>exact Bool.and_eq_true_iff.mpr ⟨k 0 x y rfl rfl,ih (Nat.succ.inj h) λj=>k (j+1)⟩
noncomputable def qY(x y:D):Prop:=(∃i j,x=.int i/\y=.int j)∨∃i j,x=.str i/\y=.str j
noncomputable def dZ(k:Nat):D->D->Prop:=k.rec qY λ_ ih x y=>qY x y∨∃a b,x=.list a/\y=.list b/\∀(j:Nat) (x y:D),a[j]? =some x->b[j]? =some y->ih x y
noncomputable def mq(k:Nat)(a b:List D):Prop:=∀(j:Nat) (x y:D),a[j]? =some x->b[j]? =some y->dZ k x y
theorem xY{k:Nat}{x y:D}(h:qY x y):dZ k x y:=by
 cases k with
 | zero=>exact h
 | succ _=>exact .inl h
theorem Iz(k:Nat)(x y:Str):dZ k (.str x) (.str y):=xY (.inr ⟨x,y,rfl,rfl⟩)
theorem EI(k:Nat)(a:List D):mq k a []:=λ_ _ _ _ h=>nS h
theorem Ao{d e:D}{G:D->D->Prop}(h:qY d e)(k1:∀i j,G (.int i) (.int j))(k2:∀i j,G (.str i) (.str j)):G d e:=h.elim (λh=>cR h λi j e1 e2=>ab e1 (ab e2 (k1 i j))) λh=>cR h λi j e1 e2=>ab e1 (ab e2 (k2 i j))
@[elab_as_elim] theorem AC{k:Nat}{d e:D}{G:D->D->Prop}(h:dZ k d e)(k1:∀i j,G (.int i) (.int j))(k2:∀i j,G (.str i) (.str j))(k3:∀m a b,k=m+1->mq m a b->G (.list a) (.list b)):G d e:=by
 cases k with
 | zero=>exact Ao h k1 k2
 | succ m=>exact Or.elim h (λh=>Ao h k1 k2) λh=>cw h λa b e1 e2 hk=>ab e1 (ab e2 (k3 m a b rfl hk))
theorem PL.uniq{h:Heap}{a:Addr}{xs ys:Array Value}(x:PL h a xs)(y:PL h a ys):xs=ys:=x.elim λn e=>y.elim λm e'=>(Data.seq.inj (congrArg Obj.data (Option.some.inj (e.symm.trans e')))).1
theorem Eg{h:Heap}{O:Addr->Prop}{v:Value}{a b:List D}(r1:ag h O v (.list a))(r2:ag h O v (.list b)):∃vs,aq h O vs a/\aq h O vs b:=
 cf r1.run λx vs e1 _ p1 q1=>cf r2.run λy ws e2 _ p2 q2=>⟨vs,⟨q1⟩,⟨List.toArray_inj (p1.uniq (Value.ref.inj (e1.symm.trans e2)▸p2))▸q2⟩⟩
theorem wX{h:Heap}{O:Addr->Prop}{k:Nat}(ih:∀m,k=m+1->∀{v:Value} {d e:D},ag h O v d->ag h O v e->dZ m d e->bA d e=true){v:Value}{d e:D}(rv:ag h O v d)(rw:ag h O v e)(hk:dZ k d e):bA d e=true:=by
 revert rv rw
 refine AC hk (λi j rv rw=>?_) (λi j rv rw=>?_) λm a b hm hks rv rw=>?_
 ·exact aW rv.run λt e1=>aW rw.run λu e2=>beq_iff_eq.mpr (Value.int.inj (e1.symm.trans e2)).1
 ·exact aW rv.run λt e1=>aW rw.run λu e2=>beq_iff_eq.mpr (Value.str.inj (e1.symm.trans e2)).1
 ·exact ah (Eg rv rw) λvs ra rb=>EY (ra.length.symm.trans rb.length) λj x y h1 h2=>ah (ra.get h1) λv1 ev r1=>ah (rb.get h2) λv2 ew r2=>ih m hm r1 (Option.some.inj (ev.symm.trans ew)▸r2) (hks j x y h1 h2)
theorem tP{h:Heap}{O:Addr->Prop}(k:Nat){v:Value}{d e:D}(rv:ag h O v d)(rw:ag h O v e)(hk:dZ k d e):bA d e=true:=by
 induction k generalizing v d e with
 | zero=>exact wX (λm h=>absurd h (Nat.zero_ne_add_one m)) rv rw hk
 | succ k ih=>exact wX (λm h {v d e}=>Nat.succ.inj h▸ih) rv rw hk
noncomputable def rG(s:Shared)(O:Addr->Prop)(k:Nat):Prop:=∀(A:Around) {v w:Value} {d e:D},A.units+k < cLine->ag s.heap O v d->ag s.heap O w e->dZ k d e->EqAt A s v w (bA d e)
theorem su{s:Shared}{O:Addr->Prop}(k:Nat)(ih:rG s O k)(A:Around){vs ws:List Value}{ds es:List D}(hu:A.units+(k+1) < cLine)(ra:aq s.heap O vs ds)(rb:aq s.heap O ws es)(hk:mq k ds es):
   ((vs.toArray.size=ws.toArray.size/\(∀j (h1:j < vs.toArray.size) (h2:j < ws.toArray.size),EqAt A.in1 s vs.toArray[j] ws.toArray[j] (nU ds es j))/\eB ds es=(List.range vs.toArray.size).all (nU ds es))∨
    ((vs.toArray.size !=ws.toArray.size)=true/\eB ds es=false)):=by
 have l1:=ra.length
 have l2:=rb.length
 by_cases hl:ds.length=es.length
 ·refine .inl ⟨l1.trans (hl.trans l2.symm),λj h1 h2=>?_,(GX hl).trans (congrArg (λn=>(List.range n).all (nU ds es)) l1.symm)⟩
  have j1:j < ds.length:=l1▸h1
  have j2:j < es.length:=l2▸h2
  have g1:=List.getElem?_eq_getElem j1
  have g2:=List.getElem?_eq_getElem j2
  refine ah (ra.get g1) λv ev rv=>ah (rb.get g2) λw ew rw'=>?_
  have e1:vs.toArray[j]=v:=Option.some.inj ((List.getElem?_eq_getElem h1).symm.trans ev)
  have e2:ws.toArray[j]=w:=Option.some.inj ((List.getElem?_eq_getElem h2).symm.trans ew)
  have e3:nU ds es j=bA ds[j] es[j]:=by unfold nU;rw[g1,g2];rfl
  rw[e1,e2,e3]
  exact ih A.in1 (by refine(?_:A.units+1+k < _);lia) rv rw' (hk j _ _ g1 g2)
 ·exact .inr ⟨bne_iff_ne.mpr λe=>hl (l1.symm.trans (e.trans l2)),Bool.eq_false_iff.mpr λq=>hl (GW q)⟩
theorem xy{s:Shared}{O:Addr->Prop}{k:Nat}(ih:∀m,k=m+1->rG s O m):rG s O k:=by
 intro A v w d e hu rv rw hk
 revert rv rw
 refine AC hk (λi j rv rw=>?_) (λi j rv rw=>?_) λm ds es hm hks rv rw=>?_
 ·exact ag.bf rv λ_=>ag.bf rw λ_=>EqAt.int_int _ _ _ _
 ·exact ag.bw rv λ_=>ag.bw rw λ_=>EqAt.str_str _ _ _ _
 ·refine cf rv.run λa vs e1 ha la ra=>cf rw.run λb ws e2 hb lb rb=>?_
  subst e1 e2 hm
  by_cases hab:a=b
  ·subst hab
   exact ab (tP (m+1) rv rw (.inr ⟨ds,es,rfl,rfl,hks⟩)) (EqAt.same _)
  ·refine EqAt.of_refs hab<|(su m (ih m rfl) A hu ⟨ra⟩ ⟨rb⟩ hks).elim (λob=>bB ob λhl he ez=>?_) λob=>bR ob λhl ez=>?_
   ·refine(?_:RcAt A s (.ref a) (.ref b) (eB ds es))
    rw[ez];exact RcAt.lists la.isList lb.isList hl (by clear ra rb;lia) he
   ·refine(?_:RcAt A s (.ref a) (.ref b) (eB ds es))
    rw[ez];exact RcAt.lists_lengths la.isList lb.isList hl (by clear ra rb;lia)
theorem qL{s:Shared}{O:Addr->Prop}(k:Nat):rG s O k:=by
 induction k with
 | zero=>exact xy λm h=>absurd h (Nat.zero_ne_add_one m)
 | succ k ih=>exact xy λm h=>Nat.succ.inj h▸ih
theorem yj{h:Heap}{O:Addr->Prop}(k:Nat){v:Value}{d1 d2 e:D}(r1:ag h O v d1)(r2:ag h O v d2)(k1:dZ k d1 e)(k2:dZ k d2 e):bA d1 e=bA d2 e:=
 Bool.eq_iff_iff.mpr ⟨λq=>tP k r2 (uu q▸r1) k2,λq=>tP k r1 (uu q▸r2) k1⟩
section
variable {c:Cx} {n:Nat}
theorem mX{n:Nat}{A:Around}(r:bh n A):A.units+50 < cLine:=by
 have:=r.u
 have:cLine=9900:=rfl
 lia
theorem ww{a b:LV}{ds es:List D}(ha:dh a ds)(hb:dh b es)(k:Nat)(hk:mq k ds es)(h50:k<=40:=by decide):be c n (compareOp .Eq) a b (.d (.bool (eB ds es))):=by
 intro aa Z A s Q E ow va vb rm I ra rb h
 have hq:=h _ _ (.bool _) (.refl _ _)
 have hu:=mX rm
 refine cw (ra.eq ha) λa vs am la r1=>ab am<|cw (rb.eq hb) λb ws am lb r2=>ab am<|Or.elim (su k (qL k) A (by lia) r1 r2 hk) (λob=>bB ob λhl he ez=>?_) (λob=>bR ob λhl ez=>?_)
 ·rw[ez]at hq
  exact RcAt.lists la.isList lb.isList hl (by lia) he pg c.w E Q hq
 ·replace hq:=ez▸hq
  exact RcAt.lists_lengths la.isList lb.isList hl (by lia) pg c.w E Q hq
theorem De{a b:LV}{ds es:List D}(ha:dh a ds)(hb:dh b es)(k:Nat)(hk:mq k ds es)(h50:k<=40:=by decide):be c n (compareOp .NotEq) a b (.d (.bool (!eB ds es))):=by
 intro aa Z A s Q E ow va vb rm I ra rb h
 have hq:=h _ _ (.bool _) (.refl _ _)
 have hu:=mX rm
 refine cw (ra.eq ha) λa vs am la r1=>ab am<|cw (rb.eq hb) λb ws am lb r2=>ab am<|Or.elim (su k (qL k) A (by lia) r1 r2 hk) (λob=>bB ob λhl he ez=>?_) (λob=>bR ob λhl ez=>?_)
 ·rw[ez]at hq
  exact RcNeAt.lists la.isList lb.isList hl (by lia) he pg c.w E Q hq
 ·replace hq:=ez▸hq
  exact RcNeAt.lists_lengths la.isList lb.isList hl (by lia) pg c.w E Q hq
theorem ug{s:Shared}{O:Addr->Prop}{A:Around}{vs:List Value}{ds:List D}{x:Value}{d:D}(k:Nat)(hu:A.units+1+k < cLine)(r:aq s.heap O vs ds)(rx:ag s.heap O x d)(hk:∀e∈ds,dZ k e d):
  ∃f:Value->Bool,(∀y,y∈vs.toArray->EqAt A.in1 s y x (f y))/\vs.toArray.any f=ds.any (λe=>bA e d):=by
 classical
 let f:Value->Bool:=λy=>decide (∃e,ag s.heap O y e/\dZ k e d/\bA e d=true)
 have key:∀{y e},ag s.heap O y e->e∈ds->f y=bA e d:=by
  intro y e ry he
  by_cases q:bA e d=true
  ·exact ab q<|decide_eq_true ⟨e,ry,hk e he,q⟩
  ·skip
   refine ab (by simpa using q:bA e d=false)<|decide_eq_false ?_
   rintro⟨e',r',k',q''⟩
   rw[yj k r' ry k' (hk e he)]at q''
   exact q q''
 refine aJ f (λy hy=>?_) ?_
 ·obtain⟨j,hj,rfl⟩:=List.mem_iff_getElem.mp (show y∈vs by simpa using hy)
  have gY:j < ds.length:=by exact rB r.length hj
  refine ah (r.get (List.getElem?_eq_getElem gY)) λv ev rv=>?_
  replace ev:=(List.getElem?_eq_getElem hj)▸ev;exact iK ev<|ab (key rv (List.getElem_mem gY))<|qL k A.in1 (by omega) rv rx (hk _ (List.getElem_mem gY))
 ·refine ab List.any_toArray ?_
  clear hu hk rx
  induction ds generalizing vs with
  | nil=>exact aq.bO r rfl
  | cons e ds ih=>
    refine aq.bn r λv vs ra rr=>ab List.any_cons<|ab List.any_cons<|ab (key ra List.mem_cons_self) ?_;rw[ih rr λry he=>key ry (List.mem_cons_of_mem _ he)]
theorem wv{l:LV}{ds:List D}{d:D}(hl:dh l ds)(k:Nat)(hk:∀e∈ds,dZ k e d)(h50:k<=40:=by decide):be c n (compareOp .In) (.d d) l (.d (.bool (ds.any λe=>bA e d))):=by
 intro aa Z A s Q E ow va vb rm I ra rb h
 refine cw (rb.eq hl) λa vs am la r=>ab am<|ah (ug (A:=A) k (by have:=mX rm;lia) r ra hk) λf hf he=>?_
 exact in_listAt f la.isList hf (he▸h _ _ (.bool _) (.refl _ _))
theorem Bt{l:LV}{ds:List D}{d:D}(hl:dh l ds)(k:Nat)(hk:∀e∈ds,dZ k e d)(h50:k<=40:=by decide):be c n (compareOp .NotIn) (.d d) l (.d (.bool (!ds.any λe=>bA e d))):=by
 intro aa Z A s Q E ow va vb rm I ra rb h
 refine cw (rb.eq hl) λa vs am la r=>ab am<|ah (ug (A:=A) k (by have:=mX rm;lia) r ra hk) λf hf he=>?_
 exact notIn_listAt f la.isList hf (he▸h _ _ (.bool _) (.refl _ _))
theorem Eu{ds:List D}{d:D}(k:Nat)(hk:∀e∈ds,dZ k e d)(h50:k<=40:=by decide):be c n (compareOp .In) (.d d) (.d (.tup ds)) (.d (.bool (ds.any λe=>bA e d))):=by
 intro aa Z A s Q E ow va vb rm I ra rb h
 refine ag.Ms rb λa vs ho la r=>ah (ug (A:=A) k (by have:=mX rm;lia) r ra hk) λf hf he=>?_
 exact in_tupleAt f la hf (he▸h _ _ (.bool _) (.refl _ _))
end
end
section
noncomputable def cut{α:Type}(l:List α)(lo hi:Option Int):List α:=(l.drop (lo.elim 0 (clipAt l.length))).take (hi.elim l.length (clipAt l.length) - lo.elim 0 (clipAt l.length))
theorem Jd{α:Type}(l:List α)(lo hi:Option Int):(cut l lo hi).length<=l.length:=by
 unfold cut;refine ab List.length_take<|ab List.length_drop ?_;lia
theorem Nw{α β:Type}(f:α->β)(l:List α)(lo hi:Option Int):cut (l.map f) lo hi=(cut l lo hi).map f:=by
 unfold cut;rw[List.length_map,List.map_take,List.map_drop]
theorem qm{α:Type}(l:List α)(b:Nat):cut l none (some (b:Int))=l.take b:=by
 unfold cut
 simp only[Option.elim,clipAt_nat,List.drop_zero,Nat.sub_zero]
 rcases Nat.le_total b l.length with h | h
 ·rw[Nat.min_eq_left h]
 ·rw[Nat.min_eq_right h,List.take_of_length_le (Nat.le_refl _),List.take_of_length_le h]
theorem GZ{α:Type}(l:List α)(a:Nat):cut l (some (a:Int)) none=l.drop a:=by
 unfold cut
 simp only[Option.elim,clipAt_nat]
 rcases Nat.le_total a l.length with h | h
 ·refine ab (Nat.min_eq_left h) ?_;rw[List.take_of_length_le (by simp)]
 ·refine ab (Nat.min_eq_right h)<|ab (List.drop_of_length_le (Nat.le_refl _))<|ab (List.drop_of_length_le h) ?_;simp
theorem lH{α:Type}(l:List α)(a b:Nat):cut l (some (a:Int)) (some (b:Int))=(l.drop a).take (b - a):=by
 unfold cut
 simp only[Option.elim,clipAt_nat]
 rcases Nat.le_total a l.length with h | h
 ·refine ab (Nat.min_eq_left h) ?_
  rcases Nat.le_total b l.length with h' | h'
  ·rw[Nat.min_eq_left h']
  ·rw[Nat.min_eq_right h',List.take_of_length_le (by simp),List.take_of_length_le (by simp;lia)]
 ·refine ab (Nat.min_eq_right h)<|ab (List.drop_of_length_le (Nat.le_refl _))<|ab (List.drop_of_length_le h) ?_;simp
theorem we{α:Type}(l:List α)(k:Nat)(hk:1<=k):cut l none (some (-(k:Int)))=l.take (l.length - k):=by
 unfold cut
 simp only[Option.elim,clipAt_neg _ _ hk,List.drop_zero,Nat.sub_zero]
section
variable {c:Cx} {n:Nat} {aa:Env} {Z:Ctx}
inductive aT(c:Cx)(ow:Ow)(h:Heap):List Value->List LV->Prop
 | nil:aT c ow h [] []
 | cons {v:Value} {vs:List Value} {l:LV} {ls:List LV}:bL c ow h v l->aT c ow h vs ls->aT c ow h (v::vs) (l::ls)
@[elab_as_elim] theorem aT.bO{c:Cx}{ow:Ow}{h:Heap}{P:List Value->Prop}{vs:List Value}(r:aT c ow h vs [])(k:P []):P vs:=by cases r;exact k
@[elab_as_elim] theorem aT.bn{c:Cx}{ow:Ow}{h:Heap}{l:LV}{ls:List LV}{P:List Value->Prop}{vs:List Value}(r:aT c ow h vs (l::ls))(k:∀v cu,bL c ow h v l->aT c ow h cu ls->P (v::cu)):P vs:=by cases r;exact k _ _ ‹_› ‹_›
theorem aT.reps{ow:Ow}{h:Heap}:∀{vs:List Value} {ds:List D},aT c ow h vs (ds.map .d)->aq h (av c ow) vs ds
 | [],[],_=>.nil
 | _,[],x=>by cases x;exact .nil
 | _,d::ds,x=>by cases x with | cons a b=>exact .cons a (aT.reps b)
noncomputable def Arg(c:Cx)(n:Nat)(aa:Env)(Z:Ctx)(es:List Expr)(pos:Pos)(ls:List LV):Prop:=
 ∀(A:Around) (s:Shared) (Q:List Value->Shared->Prop) (E:Value->Shared->Prop) (ow:Ow),bh n A->Inv c aa Z ow s->(∀vs s',aT c ow s'.heap vs ls->Step c s s'->Q vs s')->wpAny (model pg c.w) A (spliced (backTo pos (starEach es aa))) Q E s
theorem gt{pos:Pos}:Arg c n aa Z [] pos []:=λA s Q E ow rm I h=>args_nil (h _ _ .nil (.refl _ _))
theorem gq{e:Expr}{es:List Expr}{pos:Pos}{l:LV}{ls:List LV}(h1:Ev c n aa Z e l)(h2:Arg c n aa Z es pos ls)(he:starEach (e::es) aa=(false,eval e aa)::starEach es aa:=by rfl):Arg c n aa Z (e::es) pos (l::ls):=
 λA s Q E ow rm I h=>args_cons (h1.run A s _ E ow rm I λv s1 r al=>h2 A s1 _ E ow rm (I.step al) λvs s2 rs aG=>h _ _ (.cons (r.inv (I.step al) aG) rs) (al.trans aG)) he
theorem oD{es:List Expr}{pos:Pos}{ds:List D}(h1:Arg c n aa Z es pos (ds.map .d))(hz:ds.length<=1000000):Ev c n aa Z (.List es pos) (.d (.list ds)):=
 ⟨λA s Q E ow rm I h=>List_ (h1 A s _ E ow rm I λvs s1 rs al=>wpAny_newList (h _ _ (om (I.step al) rs.reps) (al.trans (.push I.ok _ _))) (by exact ab rs.reps.length<|ab sizeLine_eq<|Nat.le_trans ‹_› (Nat.le_add_left _ _)))⟩
theorem KZ{es:List Expr}{k:Nat}{pos:Pos}{ds:List D}(h1:Arg c n aa Z es pos (ds.map .d))(hz:ds.length<=1000000):Ev c n aa Z (.Tuple es k pos) (.d (.tup ds)):=
 ⟨λA s Q E ow rm I h=>Tuple_ (h1 A s _ E ow rm I λvs s1 rs al=>wpAny_newTuple (h _ _ (.tup (I.step al).fresh ⟨_,Heap.get?_push_size _ rfl,rfl,_,rfl⟩ (rs.reps.mono λb ob xs j e _ hb=>⟨Heap.get?_push_of_some _ e,hb⟩)) (al.trans (.push I.ok _ _))) (by exact ab rs.reps.length<|ab sizeLine_eq<|Nat.le_trans ‹_› (Nat.le_add_left _ _)))⟩
theorem lu{w:World}{A:Around}{s:Shared}{Q:Value->Shared->Prop}{E:Value->Shared->Prop}{value slice:Expr}{o i:Value}{T id:String}(hT:s.TypeIs o T)(hl:typeLookup (.type T) "__getitem__"=pure (some (.builtin id)))
  (h:wpAny (model pg w) A (getItem o i) Q E s) (hs:subscripted slice false o i=operate [o,i] (getItem o i)∨subscripted slice false o i=operate [i,o] (getItem o i)):wpAny (model pg w) A (subscriptTail value slice o i) Q E s:=by
 refine wpAny_bind<|wpAny_bind (wpAny_specialOf hT hl ?_)
 have fin:wpAny (model pg w) A (subscripted slice false o i) (λr fX=>wpAny (model pg w) A (letTemporaryGo value o r >>= λ_=>pure r) Q E fX) E s:=by
  rcases hs with hs | hs<;>refine ab hs ?_<;>exact wpAny_operating (wpAny_mono h (λr fX h₃=>wpAny_bind (wpAny_letTemporaryGo (wpAny_pure h₃))) λ_ _ x=>x)
 first
  | exact wpAny_pure (wpAny_bind fin)
  | exact wpAny_bind (wpAny_pure (wpAny_bind fin))
  | exact wpAny_bind fin
noncomputable def Itm(c:Cx)(n:Nat)(a i r:LV):Prop:=
 ∀(aa:Env) (Z:Ctx) (A:Around) (s:Shared) (Q:Value->Shared->Prop) (E:Value->Shared->Prop) (ow:Ow) (va vi:Value) (value slice:Expr),bh n A->Inv c aa Z ow s->bL c ow s.heap va a->bL c ow s.heap vi i->
  (subscripted slice false va vi=operate [va,vi] (getItem va vi)∨subscripted slice false va vi=operate [vi,va] (getItem va vi))->
  (∀v s',bL c ow s'.heap v r->Step c s s'->Q v s')->wpAny (model pg c.w) A (subscriptTail value slice va vi) Q E s
theorem lF{value slice:Expr}{pos:Pos}{a i r:LV}(h1:Ev c n aa Z value a)(h2:Ev c n aa Z slice i)(h3:Itm c n a i r)
  (hs:∀o i,subscripted slice false o i=operate [o,i] (getItem o i)∨subscripted slice false o i=operate [i,o] (getItem o i):=by intro _ _;first | exact .inl rfl | exact .inr rfl):Ev c n aa Z (.Subscript value slice pos) r:=
 ⟨λA s Q E ow rm I h=>Subscript_ (h1.run A s _ E ow rm I λva s1 ra al=>h2.run A s1 _ E ow rm (I.step al) λvi s2 ri aG=>
  h3 aa Z A s2 Q E ow va vi value slice rm ((I.step al).step aG) (ra.inv (I.step al) aG) ri (hs _ _) λv s3 rv cI=>h v s3 rv (al.trans (aG.trans cI)))⟩
noncomputable def dJ(k:Nat)(i:Int):Nat:=if i < 0 then(i+k).toNat else i.toNat
theorem oB{l:LV}{ds:List D}{i:Int}{d:D}(hl:dh l ds)(h0:-(ds.length:Int)<=i)(h1:i < ds.length)(hz:ds.length<=1000000)(hd:ds[dJ ds.length i]? =some d):Itm c n l (.d (.int i)) (.d d):=by
 intro aa Z A s Q E ow va vi value slice rm I ra ri hs h
 refine cw (ra.eq hl) λa vs am la r=>?_;subst am
 refine ag.bf ri (λt hs=>?_) hs
 refine ah (r.get hd) λv ev rv=>lu (T:="list") la.isList.typeIs list_getitem_lookup ?_ hs
 have fC:=r.length
 unfold dJ at ev
 by_cases hi:i < 0
 ·rw[if_pos hi]at ev
  exact wpAny_getItem_list_neg la.isList hi (by refine ab List.size_toArray ?_;lia) (by lia) (by refine ab List.size_toArray<|ab fC ?_;simpa using ev) (h _ _ rv (.refl _ _))
 ·rw[if_neg hi]at ev
  exact wpAny_getItem_list la.isList (Int.not_lt.mp ‹_›) (by lia) (by simpa using ev) (h _ _ rv (.refl _ _))
theorem us{x:List Nat}{i:Int}{k:Nat}(h0:-(x.length:Int)<=i)(h1:i < x.length)(hz:x.length<=1000000)(hd:x[dJ x.length i]? =some k):Itm c n (.d (sd x)) (.d (.int i)) (.d (sd [k])):=by
 intro aa Z A s Q E ow va vi value slice rm I ra ri hs h
 refine ag.bw ra (λu hs=>?_) hs;refine ag.bf ri (λt hs=>?_) hs
 refine lu (T:="str") (typeIs_str _ _ _) F.slot_str_getitem.lookup (P.getItem_str (c:=k) ?_ ?_ (h _ _ (.str _ _) (.tok I.ok _))) hs
 ·rw[Bool.or_eq_false_iff];exact⟨decide_eq_false (by lia),decide_eq_false (by lia)⟩
 ·rw[dq]
  have:seqIndex? i x.length=some (dJ x.length i):=by
   unfold seqIndex? dJ
   by_cases hi:i < 0
   ·simp only[hi,if_true]
    exact ab (if_pos (by simp;lia)) rfl
   ·simp only[hi,if_false]
    exact ab (if_pos (by lia)) rfl
  refine ab this ?_
  simpa using hd
theorem Gu{l:List UInt8}{i:Int}(h0:0<=i)(h1:i < l.length)(hz:l.length<=1000000):Itm c n (.d (.bytes l.toArray)) (.d (.int i)) (.d (.int (l.getD i.toNat 0).toNat)):=by
 intro aa Z A s Q E ow va vi value slice rm I ra ri hs h
 refine ag.j' ra (λu hs=>?_) hs;refine ag.bf ri (λt hs=>?_) hs
 exact lu (T:="bytes") (typeIs_bytes _ _ _) FB.slot_bytes_getitem.lookup (getItem_bytes (Nat.le_trans ‹_› (Nat.le_add_left _ _)) h0 h1 (h _ _ (.int _ _) (.tok I.ok _))) hs
noncomputable def oS(v:Value)(o:Option Int):Prop:=∃p:Option (Int×Tok),v=partValue p/\o=p.map (·.1)
theorem oS.qI{v:Value}{o:Option Int}(x:oS v o):IsPart v o:=by
 obtain⟨p,rfl,rfl⟩:=x
 cases p with
 | none=>exact .none
 | some q=>exact .int q.1 q.2
noncomputable def Pt(c:Cx)(n:Nat)(aa:Env)(Z:Ctx)(x:Option Expr)(o:Option Int):Prop:=
 ∀(A:Around) (s:Shared) (Q:Value->Shared->Prop) (E:Value->Shared->Prop) (ow:Ow),bh n A->Inv c aa Z ow s->(∀v s',oS v o->Step c s s'->Q v s')->wpAny (model pg c.w) A (evalPart x aa) Q E s
theorem t5:Pt c n aa Z none none:=λA s Q E ow rm I h=>wpAny_pure (h _ _ ⟨none,rfl,rfl⟩ (.refl _ _))
theorem lz{e:Expr}{i:Int}(h1:Ev c n aa Z e (.d (.int i))):Pt c n aa Z (some e) (some i):=λA s Q E ow rm I h=>h1.run A s Q E ow rm I λv s' r st=>by
 exact ag.bf r λt=>h _ _ ⟨some (i,t),rfl,rfl⟩ st
theorem tM{value:Expr}{lo hi:Option Expr}{p pos:Pos}{a:LV}{l h:Option Int}{r:LV}(h1:Ev c n aa Z value a)(h2:Pt c n aa Z lo l)(h3:Pt c n aa Z hi h)
  (h4:∀(A:Around) (s:Shared) (Q:Value->Shared->Prop) (E:Value->Shared->Prop) (ow:Ow) (va vl vh:Value),bh n A->Inv c aa Z ow s->bL c ow s.heap va a->oS vl l->oS vh h->
   (∀v s',bL c ow s'.heap v r->Step c s s'->Q v s')->
   wpAny (model pg c.w) A (subscriptTail value (.Slice lo hi none p) va (.ref s.heap.objs.size)) Q E {s with heap:=s.heap.push {cls:=.type "slice",data:=.fields #[vl,vh,.none]}}):
  Ev c n aa Z (.Subscript value (.Slice lo hi none p) pos) r:=
 ⟨λA s Q E ow rm I k=>Subscript_ (h1.run A s _ E ow rm I λva s1 ra al=>wpAny_Slice (h2 A s1 _ E ow rm (I.step al) λvl s2 pl aG=>h3 A s2 _ E ow rm ((I.step al).step aG) λvh s3 ph cI=>by
  exact wpAny_pure (h4 A s3 Q E ow va vl vh rm (((I.step al).step aG).step cI) (ra.inv (I.step al) (aG.trans cI)) pl ph λv s4 rv iJ=>k v s4 rv (al.trans (aG.trans (cI.trans iJ))))))⟩
theorem sy{s:Shared}(ok:c.Ok)(o:Obj):Step c s {s with heap:=s.heap.push o}:=.push ok o s.toks
theorem vK{value:Expr}{lo hi:Option Expr}{p pos:Pos}{a:LV}{ds:List D}{l h:Option Int}(h1:Ev c n aa Z value a)(h2:Pt c n aa Z lo l)(h3:Pt c n aa Z hi h)(ha:dh a ds)(hz:ds.length<=1000000):
  Ev c n aa Z (.Subscript value (.Slice lo hi none p) pos) (.d (.list (cut ds l h))):=by
 refine tM h1 h2 h3 λA s Q E ow va vl vh rm I ra pl ph k=>cw (ra.eq ha) λa vs am la r=>ab am ?_
 have st:=sy (s:=s) I.ok {cls:=.type "slice",data:=.fields #[vl,vh,.none]}
 have ji:=la.push {cls:=.type "slice",data:=.fields #[vl,vh,.none]}
 have hl:=r.length
 refine lu (T:="list") ji.isList.typeIs list_getitem_lookup (wpAny_getItem_list_slice ji.isList (Heap.IsSliceOf.new ..) pl.qI ph.qI .none (by trivial) ?_ (by refine ab List.size_toArray<|ab sizeLine_eq ?_;lia)) (.inr rfl)
 have r':aq (s.heap.push {cls:=.type "slice",data:=.fields #[vl,vh,.none]}) (av c ow) (cut vs l h) (cut ds l h):=by
  unfold cut
  exact ab hl<|((r.mono λb ob xs j e _ hb=>⟨Heap.get?_push_of_some _ e,hb⟩).drop _).take _
 refine k _ _ (om (I.step st) r' ?_) (st.trans (.push I.ok _ _))
 rw[slicePick_plain]
 unfold cut
 rfl
theorem vS{value:Expr}{lo hi:Option Expr}{p pos:Pos}{x:List Nat}{l h:Option Int}(h1:Ev c n aa Z value (.d (sd x)))(h2:Pt c n aa Z lo l)(h3:Pt c n aa Z hi h)(hz:x.length<=1000000):
  Ev c n aa Z (.Subscript value (.Slice lo hi none p) pos) (.d (sd (cut x l h))):=by
 refine tM h1 h2 h3 λA s Q E ow va vl vh rm I ra pl ph k=>ag.bw ra λt=>?_
 have st:=sy (s:=s) I.ok {cls:=.type "slice",data:=.fields #[vl,vh,.none]}
 obtain⟨ql,rfl,rfl⟩:=pl
 obtain⟨qh,rfl,rfl⟩:=ph
 refine lu (T:="str") (typeIs_str _ _ _) F.slot_str_getitem.lookup (wpAny_getItem_str_slice (l:=ql) (u:=qh) (st:=none) ⟨_,Heap.get?_push_size _ rfl,rfl,rfl⟩ rfl ?_) (.inr rfl)
 have e:slicePicked (S x) ql qh none=sliceRange (sliceBounds (ql.map (·.1)) (qh.map (·.1)) none x.length).1 (sliceBounds (ql.map (·.1)) (qh.map (·.1)) none x.length).2.1 1:=by
  delta slicePicked Builtin.Str.strSliceIndices sliceBounds
  cases ql<;>cases qh<;>rfl
 have hp:(slicePicked (S x) ql qh none).filterMap ((S x).cps[·]?)=cut x (ql.map (·.1)) (qh.map (·.1)):=by
  refine ab e ?_;rw[sliceBounds_plain]
  simp only[sliceRange_one,pick_run]
  unfold cut
  rfl
 unfold sliceMade
 refine ab hp ?_
 have aV:(slicePicked (S x) ql qh none).length=(cut x (ql.map (·.1)) (qh.map (·.1))).length:=by
  refine ab e ?_;rw[sliceBounds_plain]
  simp only[sliceRange_one]
  unfold cut
  rw[List.length_map,List.length_range,List.length_take,List.length_drop]
  have hc:∀i,clipAt x.length i<=x.length:=λi=>by have:=clipAt_cast x.length i;lia
  have hB:(qh.map (·.1)).elim x.length (clipAt x.length)<=x.length:=by
   cases qh with
   | none=>exact Nat.le_refl _
   | some q=>exact hc _
  lia
 by_cases hc:((none:Option (Int×Tok)).map (·.1)).getD 1==1&&(slicePicked (S x) ql qh none).length==(S x).length
 ·refine ab (if_pos hc) ?_
  have:cut x (ql.map (·.1)) (qh.map (·.1))=x:=by
   rw[Bool.and_eq_true,aV,dq]at hc
   exact((List.take_sublist _ _).trans (List.drop_sublist _ _)).eq_of_length (by simpa using hc.2:(cut x (ql.map (·.1)) (qh.map (·.1))).length=x.length)
  rw[this]at k
  exact k _ _ (.str _ _) st
 ·exact ab (if_neg hc)<|⟨by rw[dq,sizeLine_eq];have:=Jd x (ql.map (·.1)) (qh.map (·.1));lia,k _ _ (.str _ _) (st.trans (.tok I.ok _))⟩
end
end
section
theorem gi{M:Model}{A:Around}{E:Value->Shared->Prop}{s:Shared}{f:Value}{trees:List (Bool×Sem Value)}{Q:Args->Shared->Prop}(hp:trees.any (·.1)=false)(h:wpAny M A (spliced trees) (λvs s'=>Q ⟨vs,[]⟩ s') E s):wpAny M A (evalArgs f true trees []) Q E s:=by
 cases trees with
 | nil=>
  refine wpAny_bind (wpAny_mono h (λvs s' h'=>?_) λ_ _ x=>x)
  exact wpAny_holding<|wpAny_bind (wpAny_pure (wpAny_bind (wpAny_pure (wpAny_pure h'))))
 | cons t ao=>
  obtain⟨b,x⟩:=t
  cases b with
  | true=>exact tF hp
  | false=>exact evalArgs_plain h
structure bI(c:Cx)(sc:Scope)(aa:Env):Prop where
 sc:aa.scope=sc
 cells:∀x,aa.kindOf x=some .cell->∃cl,aa.cells.lookup x=some cl/\c.h₀.objs.size<=cl
theorem bI.place{c:Cx}{sc:Scope}{aa:Env}(e:bI c sc aa){x:String}(h:sc.names.lookup (Str.ofString x)=some .local∨sc.names.lookup (Str.ofString x)=some .cell):cr c aa x:=by
 have k:aa.kindOf (Str.ofString x)=sc.names.lookup (Str.ofString x):=by unfold Env.kindOf;exact ab e.sc rfl
 rcases h with h | h
 ·exact .inl (k.trans h)
 ·exact .inr ⟨k.trans h,e.cells _ (k.trans h)⟩
theorem bI.kind{c:Cx}{sc:Scope}{aa:Env}(e:bI c sc aa){x:Str}{k:NameKind}(h:sc.names.lookup x=some k):aa.kindOf x=some k:=by
 unfold Env.kindOf;exact ab e.sc h
theorem BG(names:List (Str×NameKind)):∀(k:Nat) (acc:List (Str×Addr)) (n:Str),(acc.lookup n).isSome=true->((cellsFrom k names acc).lookup n).isSome=true:=by
 induction names with
 | nil=>exact λ_ _ _ h=>h
 | cons p r ih=>
  intro k acc n h
  refine bq (P:=λl:List (Str×Addr)=>(l.lookup n).isSome=true) (λ_=>ih _ _ n ?_) λ_=>ih _ _ n h
  refine ab List.lookup_cons ?_
  split
  ·rfl
  ·exact h
theorem cellsFrom_some(names:List (Str×NameKind)):∀(k:Nat) (acc:List (Str×Addr)) (n:Str),names.lookup n=some .cell->((cellsFrom k names acc).lookup n).isSome=true:=by
 induction names with
 | nil=>exact λ_ _ _ h=>nS h
 | cons p r ih=>
  intro k acc n h
  replace h:=Eq.trans (Eq.symm List.lookup_cons) h
  cases hn:n==p.1 with
  | true=>
   replace h:=hn▸h
   refine bq (P:=λl:List (Str×Addr)=>(l.lookup n).isSome=true) (λ_=>?_) λq=>absurd (beq_iff_eq.mpr (Option.some.inj h)) q
   refine BG r _ _ n<|ab List.lookup_cons<|ab hn ?_;rfl
  | false=>
   replace h:=hn▸h
   exact bq (P:=λl:List (Str×Addr)=>(l.lookup n).isSome=true) (λ_=>ih _ _ n h) λ_=>ih _ _ n h
theorem Fd(kindOf:Str->Option NameKind)(binds:List (Str×Value)):∀(m:Str->Option Value) (n:Str),n∉binds.map (·.1)->bindL kindOf binds m n=m n:=by
 induction binds with
 | nil=>exact λ_ _ _=>rfl
 | cons p r ih=>
  intro m n h
  rw[List.map_cons,List.mem_cons,not_or]at h
  exact(ih _ n h.2).trans<|bq (P:=λf:Str->Option Value=>f n=m n) (λ_=>if_neg h.1) λ_=>rfl
theorem Ha(kindOf:Str->Option NameKind)(binds:List (Str×Value))(m:Str->Option Value)(n:Str)(v:Value)(h:(n,v)∈binds)(hn:(binds.map (·.1)).Nodup)(hk:kindOf n=some .local):bindL kindOf binds m n=some v:=by
 induction binds generalizing m with
 | nil=>exact nomatch h
 | cons p r ih=>
  have hn:=List.nodup_cons.mp hn
  refine(List.mem_cons.mp h).elim (λe=>?_) λh=>ih _ h hn.2
  subst e
  exact(congrFun (congrArg (bindL kindOf r) (if_pos hk)) n).trans ((Fd kindOf r _ _ hn.1).trans (if_pos rfl))
theorem Fe(kindOf:Str->Option NameKind)(binds:List (Str×Value)):∀(m:Str->Option Value) (n:Str),n∉binds.map (·.1)->bindC kindOf binds m n=m n:=by
 induction binds with
 | nil=>exact λ_ _ _=>rfl
 | cons p r ih=>
  intro m n h
  rw[List.map_cons,List.mem_cons,not_or]at h
  exact(ih _ n h.2).trans<|bq (P:=λf:Str->Option Value=>f n=m n) (λ_=>rfl) λ_=>if_neg h.1
theorem Hb(kindOf:Str->Option NameKind)(binds:List (Str×Value))(m:Str->Option Value)(n:Str)(v:Value)(h:(n,v)∈binds)(hn:(binds.map (·.1)).Nodup)(hk:kindOf n≠some .local):bindC kindOf binds m n=some v:=by
 induction binds generalizing m with
 | nil=>exact nomatch h
 | cons p r ih=>
  have hn:=List.nodup_cons.mp hn
  refine(List.mem_cons.mp h).elim (λe=>?_) λh=>ih _ h hn.2
  subst e
  exact(congrFun (congrArg (bindC kindOf r) (if_neg hk)) n).trans ((Fe kindOf r _ _ hn.1).trans (if_pos rfl))
theorem gr{c:Cx}{s:Shared}(ok:c.Ok)(b:Bs c s){a:Addr}(h:s.heap.objs.size<=a):¬c.D a:=λd=>Nat.not_lt.mpr h (ok.jin _ _ b.j d)
theorem Fz{v:Option Value}{x:Str}(e:zl v=some x):∃t,v=some (.str x t):=by
 cases v with
 | none=>exact nS e
 | some v=>cases v<;>first | cases e;done | (exact aC e<|⟨_,rfl⟩)
theorem Dz{d:Data}{x:Str}(e:yT d=some x):∃vs t,d=.fields vs/\vs[1]? =some (.str x t):=by
 cases d with
 | fields vs=>obtain⟨t,h⟩:=Fz e;exact mB vs t rfl h
 | _=>cases e
theorem codeRec_of{h:Heap}{c:Addr}{x:Str}(e:iy h c=some x):h.CodeRec (.ref c) x:=by
 unfold iy at e
 refine ah (Option.bind_eq_some_iff.mp e) λo ho e=>cR (Dz e) λvs t h1 h2=>?_
 exact rS c o vs t rfl ho h1 h2
structure cV(fa:Addr)(fd:FuncData)(body:List Stmt):Prop where
 at_:∀P,∃o,(K P).lookup fa=some o/\o.data=.func fd
 body:fd.body=.stmts body
 clo:fd.closure=[]
 code:∃cd,fd.code=.ref cd/\(cd,fd.qualname)∈kj
 glob:fd.globals=mainGlobals
 bins:fd.builtins=builtinsNs
 kind:fd.scope.kind=.function
 gen:fd.scope.isGenerator=false
 co:fd.scope.isCoroutine=false
theorem call_cells{w:World}{A:Around}{s:Shared}{R:Result->Shared->Prop}{a:Addr}{o:Obj}{fd:FuncData}{body:List Stmt}{vals:List Value}{binds:List (Str×Value)}
  (hroom:A.depth < recursionLimit) (ho:s.heap.get? a=some o) (hdata:o.data=.func fd) (hlim:s.heap.NoLimit) (gg:s.heap.CodeRec fd.code fd.qualname)
  (hbody:fd.body=.stmts body) (hY:bindArgs fd ⟨vals,[]⟩=pure binds) (hclo:fd.closure=[])
  (hkind:∀x∈binds,fd.scope.names.lookup x.1=some .local∨(fd.scope.names.lookup x.1=some .cell/\((cellsFrom (s.heap.objs.size+1) fd.scope.names []).lookup x.1).isSome=true))
  (fb:fd.scope.isCoroutine=false) (hgen:fd.scope.isGenerator=false) (hk:fd.scope.kind=.function)
  (h:∀aD,s.toks<=aD.toks->InCallC s (callEnvC fd s.heap.objs.size a).locals (bindL (callEnvC fd s.heap.objs.size a).kindOf binds λ_=>none) (callEnvC fd s.heap.objs.size a).cells
    (bindC (callEnvC fd s.heap.objs.size a).kindOf binds λ_=>none) aD->
   wpAny (model pg w) (A.deeper (callEnvC fd s.heap.objs.size a)) (execs body (callEnvC fd s.heap.objs.size a)) (λf s'=>R (.ok (.ret (match f with | .ret v=>v | _=>.none))) s')
    (λe s'=>wpAny (model pg w) (A.deeper (callEnvC fd s.heap.objs.size a)) (leaving (callEnvC fd s.heap.objs.size a) e) (λ_ cQ=>R (.error e) cQ) (λe' cQ=>R (.error e') cQ) s') aD):
  codeAny (model pg w) A (.call (.ref a) ⟨vals,[]⟩) R s:=by
 refine codeAny_call_function hroom ho hdata fb hgen hbody gg<|ab hY<|ab hclo<|wpAny_pure (wpAny_with_toks (Nat.le_refl _) (wpAny_newFunctionEnv_cells hk hkind λaa he s' x tk=>?_))
 subst he
 exact⟨hlim.keeps x.toInCall.keep,codeAny_func (h s' tk x)⟩
theorem xv{c:Cx}{s aD:Shared}{fd:FuncData}{fa:Addr}{names:List String}{vs:List Value}{ds:List D}(ok:c.Ok)(hh:c.held=[])(eC:s.toks<=aD.toks)(h0:c.h₀.objs.size<=s.heap.objs.size)(hO:∀a,c.O a->a < c.h₀.objs.size)(b:Bs c s)(r:aq s.heap c.O vs ds)
  (hl:names.length=vs.length) (gd:names.Nodup) (hg:fd.globals=mainGlobals) (hb:fd.builtins=builtinsNs) (hk:fd.scope.kind=.function)
  (hp:∀x∈names,fd.scope.names.lookup (Str.ofString x)=some .local∨fd.scope.names.lookup (Str.ofString x)=some .cell)
  (x:InCallC s (callEnvC fd s.heap.objs.size fa).locals (bindL (callEnvC fd s.heap.objs.size fa).kindOf ((names.map Str.ofString).zip vs) λ_=>none) (callEnvC fd s.heap.objs.size fa).cells
    (bindC (callEnvC fd s.heap.objs.size fa).kindOf ((names.map Str.ofString).zip vs) λ_=>none) aD):
  Inv c (callEnvC fd s.heap.objs.size fa) (names.zip (ds.map .d)) (λ_=>none) aD/\bI c fd.scope (callEnvC fd s.heap.objs.size fa):=by
 refine cY x.toInCall.same λh' tk e=>?_
 have st:Step c s aD:=.keep ok (by
  subst e
  by_cases q:s.heap.objs.size<=h'.objs.size
  ·exact q
  ·exact Nat.le_of_lt (Nat.lt_of_le_of_lt x.toInCall.fresh (by exact fz x.toInCall.ns λo _ _ ho _=>Heap.lt_size ho))) x.toInCall.keep (by exact ab e rfl) (by exact ab e rfl) eC
 have hLs:s.heap.objs.size<=(callEnvC fd s.heap.objs.size fa).locals:=x.toInCall.fresh
 have kinds:∀n,(callEnvC fd s.heap.objs.size fa).kindOf n=fd.scope.names.lookup n:=λn=>rfl
 have hnd':(((names.map Str.ofString).zip vs).map (·.1)).Nodup:=by
  exact ab (List.map_fst_zip (by rw[List.length_map];lia))<|List.Pairwise.map _ (λa b hab e=>hab (pN e)) gd
 have cell_hi:∀(n:Str) cl,(callEnvC fd s.heap.objs.size fa).cells.lookup n=some cl->s.heap.objs.size<=cl:=λn cl h=>
  Nat.le_of_lt (Nat.lt_of_le_of_lt hLs (x.above n cl (PySem.mem_of_lookup h)))
 have cells_some:∀n,(callEnvC fd s.heap.objs.size fa).kindOf n=some .cell->((callEnvC fd s.heap.objs.size fa).cells.lookup n).isSome=true:=λn h=>cellsFrom_some fd.scope.names _ [] n h
 refine⟨⟨ok,hO,b.step ok st,hk,hg,hb,Nat.le_trans h0 hLs,gr ok b hLs,⟨_,x.toInCall.ns,λy l hf=>?_⟩,λn cl h2 _=>⟨_,x.cell n cl h2⟩,λn cl h=>gr ok b (cell_hi n cl h),
  λn n' cl h1 h2=>PySem.name_of_addr x.apart (PySem.mem_of_lookup h1) (PySem.mem_of_lookup h2),(λ_ _ h=>nomatch h),(λ_ _ _ h=>nomatch h),b.mQ hLs,λn cl h _=>b.mQ (cell_hi n cl h),(λ_ _ h=>nomatch h),λp hp=>by replace hp:=hh▸hp;cases hp⟩,rfl,λx hx=>by
  obtain⟨cl,dS⟩:=Option.isSome_iff_exists.mp (cells_some x hx)
  exact aJ cl dS (Nat.le_trans h0 (cell_hi x cl dS))⟩
 have key:∀(names:List String) (vs:List Value) (ds:List D),aq s.heap c.O vs ds->names.length=vs.length->find (names.zip (ds.map .d)) y=some l->∃v d,(Str.ofString y,v)∈(names.map Str.ofString).zip vs/\y∈names/\l=.d d/\ag s.heap c.O v d:=by
  intro names
  induction names with
  | nil=>intro vs ds _ _ h;exact nS h
  | cons z zs ih=>
   intro vs ds r hl h
   cases ds with
   | nil=>exact aq.bO r (λhl=>nomatch hl) hl
   | cons d ds=>
    refine aq.bn r (λv vs rv rvs hl=>?_) hl
    have h':(if z=y then some (LV.d d)else find (zs.zip (ds.map .d)) y)=some l:=h
    split at h'
    ·rename_i hz
     exact ab hz<|aC h'<|il v d List.mem_cons_self List.mem_cons_self rfl rv
    ·exact cf (ih vs ds rvs (by simpa using hl) h') λv' d' h1 h2 h3 h4=>il v' d' (List.mem_cons_of_mem _ h1) (List.mem_cons_of_mem _ h2) h3 h4
 refine cf (key names vs ds r hl hf) λv d h1 h2 ob4 h4=>ab ob4<|aJ v ?_ ((h4.step ok b st).less λa q=>q.elim id λ⟨_,q⟩=>nomatch q)
 rcases hp y h2 with hk' | hk'
 ·exact .inl ⟨(kinds _).trans hk',Ha _ _ _ _ _ h1 hnd' ((kinds _).trans hk')⟩
 ·obtain⟨cl,dS⟩:=Option.isSome_iff_exists.mp (cells_some _ ((kinds _).trans hk'))
  refine .inr (.inl ⟨.inl ((kinds _).trans hk'),cl,dS,?_⟩)
  have:=x.cell _ cl dS
  rwa [Hb _ _ _ _ v h1 hnd' (by rw[kinds,hk'];exact λq=>nomatch q)]at this
theorem qj{c:Cx}{s aD:Shared}{fd:FuncData}{fa:Addr}{names:List String}{vs:List Value}{ds:List D}(ok:c.Ok)(hh:c.held=[])(eC:s.toks<=aD.toks)(h0:c.h₀=s.heap)(hO:∀a,c.O a->a < s.heap.objs.size)(b:Bs c s)(r:aq s.heap c.O vs ds)
  (hl:names.length=vs.length) (gd:names.Nodup) (hg:fd.globals=mainGlobals) (hb:fd.builtins=builtinsNs) (hk:fd.scope.kind=.function)
  (hp:∀x∈names,fd.scope.names.lookup (Str.ofString x)=some .local∨fd.scope.names.lookup (Str.ofString x)=some .cell)
  (x:InCallC s (callEnvC fd s.heap.objs.size fa).locals (bindL (callEnvC fd s.heap.objs.size fa).kindOf ((names.map Str.ofString).zip vs) λ_=>none) (callEnvC fd s.heap.objs.size fa).cells
    (bindC (callEnvC fd s.heap.objs.size fa).kindOf ((names.map Str.ofString).zip vs) λ_=>none) aD):
  Inv c (callEnvC fd s.heap.objs.size fa) (names.zip (ds.map .d)) (λ_=>none) aD/\bI c fd.scope (callEnvC fd s.heap.objs.size fa):=
 xv ok hh eC (by exact ab h0<|Nat.le_refl _) (λa h=>h0▸hO a h) b r hl gd hg hb hk hp x
structure q8(fd:FuncData)(aa:Env):Prop where
 code:aa.code=fd.code
 qual:aa.qual=fd.qualname++".<locals>."
 globals:aa.globals=fd.globals
 builtins:aa.builtins=fd.builtins
theorem qV{n:Nat}{fa:Addr}{fd:FuncData}{body:List Stmt}{names:List String}{ds:List D}{r:D}(F:cV fa fd body)
  (hY:∀vs:List Value,names.length=vs.length->bindArgs fd ⟨vs,[]⟩=pure ((names.map Str.ofString).zip vs)) (hl:names.length=ds.length) (gd:names.Nodup)
  (hp:∀x∈names,fd.scope.names.lookup (Str.ofString x)=some .local∨fd.scope.names.lookup (Str.ofString x)=some .cell)
  (h:∀(c:Cx) (aa:Env),c.tz->bI c fd.scope aa->q8 fd aa->bS c n aa (names.zip (ds.map .d)) body λo=>o=.ret r):Fn (n+1) fa ds r:=by
 intro c A s vs Q E ok hh tz rm h0 ht0 hO b rs k
 refine ah (F.at_ c.w.params) λo ho hd=>ah F.code λcd gg eJ=>?_
 have hlv:names.length=vs.length:=hl.trans rs.length.symm
 refine wpAny_call<|call_cells (binds:=(names.map Str.ofString).zip vs) (by have:=rm.d;refine(?_:A.depth < 1000);lia) (b.sta.k _ _ ho) hd b.sta.nolimit (gg▸codeRec_of (b.sta.cd _ eJ)) F.body (hY vs hlv) F.clo ?_ F.co F.gen F.kind ?_
 ·intro x hx
  refine ah (List.mem_map.mp ((List.of_mem_zip hx).1:x.1∈names.map Str.ofString)) λy hy e=>rB e ?_
  rcases hp y hy with q | q
  ·exact .inl q
  ·exact .inr ⟨q,cellsFrom_some _ _ _ _ q⟩
 ·intro aD eC x
  obtain⟨I,eo⟩:=qj (names:=names) ok hh eC h0 hO b rs hlv gd F.glob F.bins F.kind hp x
  refine(h c _ tz eo ⟨rfl,rfl,rfl,rfl⟩).run _ aD _ _ _ (⟨rm.h,by have:=rm.d;refine(?_:A.depth+1+10 * n<=900);lia,by have:=rm.u;refine(?_:A.units+3+100 * n<=9000);lia⟩:bh n (A.deeper (callEnvC fd s.heap.objs.size fa))) I λf s' o ho cb=>?_
  subst ho
  cases f<;>first | exact cb.elim | skip
  exact k _ _ cb.2 ⟨h0▸cb.1.kp,λ_=>cb.1.j,cb.1.os.trans b.os.symm,λ_=>cb.1.gens,ht0▸cb.1.tk⟩
section
variable {c:Cx} {n:Nat} {aa:Env} {Z:Ctx}
theorem Jj{A:Around}{s:Shared}{ow:Ow}{fa:Addr}{vs:List Value}{ds:List D}{r:D}{Q:Value->Shared->Prop}{E:Value->Shared->Prop}(rm:bh n A)(I:Inv c aa Z ow s)(rs:aq s.heap (av c ow) vs ds)(hf:Fn n fa ds r)(tz:c.tz)
  (k:∀v s',ag s'.heap (av c ow) v r->Step c s s'->Q v s'):wpAny (model pg c.w) A (call (.ref fa) vs) Q E s:=by
 let c':Cx:={c with h₀:=s.heap,O:=av c ow,pin:=λ_=>none,held:=[],t₀:=s.toks}
 have cb:c'.Ok:=⟨I.ok.vd,I.ok.vsa,I.ok.vseq,I.ok.vco,I.ok.jin,I.ok.jk,I.ok.tab,I.ok.tabJ,I.ok.tabK,λa h=>Nat.lt_of_lt_of_le (I.ok.sn a h) I.bs.size,(λ_ _ h=>nomatch h),λtz=>Nat.lt_of_lt_of_le (I.ok.tp tz) I.bs.tk⟩
 refine hf c' A s vs Q E cb rfl tz rm rfl rfl (λa h=>?_) (⟨.refl _ _,(λ_ _ h=>nomatch h),I.bs.sta,I.bs.j,I.bs.os,I.bs.gens,Nat.le_refl _⟩:Bs c' s) rs λv s' rv st=>k v s' rv ⟨st.kp,st.j,st.os,st.gens,st.tk⟩
 rcases h with h | ⟨x,h⟩
 ·exact Nat.lt_of_lt_of_le (I.oin _ h) I.bs.size
 ·refine bB (I.frm.onew x a h) λ_ _ ar=>cY ar λxs j e=>?_
  exact Heap.lt_size e
theorem IW{x:Str}{p pos:Pos}{args:List Expr}{fa:Addr}{fd:FuncData}{body:List Stmt}{ds:List D}{r:D}(F:cV fa fd body)(g:dr x (.ref fa))(hk:aa.kindOf x=some .globalImplicit)(ha:Arg c n aa Z args pos (ds.map .d))(hf:Fn n fa ds r)(tz:c.tz)
  (hx:(x==("__debug__":Str))=false:=by decide+kernel) (dt:(backTo pos (starEach args aa)).any (·.1)=false:=by rfl):Ev c n aa Z (.Call (.Name x p) args [] pos) (.d r):=by
 refine⟨?_⟩
 intro A s Q E ow rm I k
 refine ah (F.at_ c.w.params) λo h1 h2=>Call_Name rfl (iU I g hk hx (callWith_function (o:=o) (fd:=fd) (gi dt (Q:=λx aD=>(aD.heap.get? fa=some o/\o.data=.func fd)/\wpAny (model pg c.w) A (call (.ref fa) ([]++x.pos) x.kw) Q E aD) (ha A s _ E ow rm I λvs s1 rs al=>?_))))
 exact⟨⟨(I.step al).bs.sta.k _ _ h1,h2⟩,Jj rm (I.step al) rs.reps hf tz λv s' rv st=>k v s' rv (al.trans st)⟩
end
end
section
noncomputable def l5:Value->Bool
 | .type n=>!(["enumerate","zip","dict_itemiterator","dict_reverseitemiterator","odict_iterator","itertools.zip_longest","itertools.pairwise"].contains n)&&n !="builtin_function_or_method"
 | _=>false
noncomputable def kC(o:Obj):Prop:=(∀xs k,o.data≠.seq xs k)/\(∀v,o.data≠.cell v)/\(∀es ep,o.data≠.dict es ep)/\(∀a,o≠d9 a)/\¬jf o/\l5 o.cls=true
section
variable {c:Cx} {n:Nat} {aa:Env} {Z:Ctx}
theorem uc{h h':Heap}{cl:Addr}{v:Option Value}(x:h.IsCell cl v)(k:∀o,h.get? cl=some o->h'.get? cl=some o):h'.IsCell cl v:=ah x λo e d=>⟨o,k o e,d⟩
theorem Inv.u7{ow:Ow}{s:Shared}(I:Inv c aa Z ow s){i:Addr}{h':Heap}{tk:Nat}(hk:∀b o,b≠i->s.heap.get? b=some o->h'.get? b=some o)(hz:s.heap.objs.size<=h'.objs.size)(hi:c.h₀.objs.size<=i)(hD:¬c.D i)(hp:c.pin i=none)
  (hSq:∀o,s.heap.get? i=some o->(∀xs k,o.data≠.seq xs k)/\(∀a,o≠d9 a)/\¬jf o) (nL:aa.locals≠i) (nC:∀{cl v},s.heap.IsCell cl v->cl≠i) (ht:s.toks<=tk:=by first | exact Nat.le_refl _ | exact Nat.le_succ _ | (lia)):Inv c aa Z ow {s with heap:=h',toks:=tk}:=by
 refine ah I.frm.ns λm hm hv=>?_
 have nS:∀{a o xs k},s.heap.get? a=some o->o.data=.seq xs k->a≠i:=by
  rintro a o xs k e hd rfl
  exact(hSq o e).1 _ _ hd
 have iM:jN s.heap h' (av c ow) (av c ow):=λa o xs k e hd ho=>⟨hk a o (nS e hd) e,ho⟩
 have pl:∀{a xs},PL s.heap a xs->PL h' a xs:=λob=>aW ob λk e=>⟨k,hk _ _ (nS e rfl) e⟩
 refine⟨I.ok,I.oin,⟨⟨Nat.le_trans I.bs.kp.1 hz,λa o v e=>hk a o (λq=>by subst q;exact absurd (Heap.lt_size e) (Nat.not_lt.mpr hi)) (I.bs.kp.2 a o v e)⟩,
  λa o e=>hk a o (λq=>by cases q;replace e:=hp▸e;cases e) (I.bs.pins a o e),I.bs.sta.keeps λa ha o e=>hk a o (λq=>by subst q;exact absurd (I.ok.sn _ ha) (Nat.not_lt.mpr hi)) e,
  I.ok.jk _ _ I.bs.j (λa ha o e=>hk a o (λq=>by subst q;exact hD ha) e) (λa o ho e=>hk a o (λq=>by subst q;exact(hSq o e).2.2 ho) e),I.bs.os,I.bs.gens,Nat.le_trans I.bs.tk ht⟩,
  I.frm.kind,I.frm.glob,I.frm.bins,I.frm.loc,I.frm.locD,⟨m,lX hm λo e=>hk _ o nL e,λx l e=>?_⟩,λx cl h1 h2=>?_,I.frm.cD,I.frm.cinj,λx a e=>?_,I.frm.oinj,I.frm.pL,I.frm.pC,I.frm.pO,λp q=>(I.frm.held p q).mono iM⟩
 ·refine ah (hv x l e) λv h1 h2=>aJ v ?_ ?_
  ·rcases h1 with h1 | ⟨h1,cl,h3,h4⟩ | h1
   ·exact .inl h1
   ·exact .inr (.inl ⟨h1,cl,h3,uc h4 λo e=>hk _ o (nC h4) e⟩)
   ·exact .inr (.inr h1)
  ·cases l with
   | d d=>exact ag.mono iM h2
   | own ds=>exact cf h2 λa vs e1 e2 e3 e4=>il a vs e1 e2 (pl e3) (aq.mono iM e4)
   | app z=>exact cf h2 λb a e1 e2 e3 e4=>il b a e1 e2 (hk _ _ (λq=>by cases q;exact(hSq _ e3).2.1 _ rfl) e3) e4
 ·obtain⟨v,h4⟩:=I.frm.cnew x cl h1 h2
  exact nP v (uc h4 λo e=>hk _ o (nC h4) e)
 ·refine bB (I.frm.onew x a e) λh1 h2 ar=>aW ar λxs h3=>?_
  exact dQ h1 h2 ⟨xs,pl h3⟩
theorem Inv.chg{ow:Ow}{s:Shared}(I:Inv c aa Z ow s){i:Addr}{h':Heap}{tk:Nat}(hk:∀b o,b≠i->s.heap.get? b=some o->h'.get? b=some o)(hz:s.heap.objs.size<=h'.objs.size)(hi:c.h₀.objs.size<=i)(hD:¬c.D i)(hp:c.pin i=none)
  (hN:∀o,s.heap.get? i=some o->kC o) (ht:s.toks<=tk:=by first | exact Nat.le_refl _ | exact Nat.le_succ _ | (lia)):Inv c aa Z ow {s with heap:=h',toks:=tk}:=by
 refine ah I.frm.ns λm hm hv=>I.u7 hk hz hi hD hp (λo e=>⟨(hN o e).1,(hN o e).2.2.2.1,(hN o e).2.2.2.2.1⟩) ?_ ?_ ht
 ·rintro rfl
  exact lh hm λo es ep e hd _=>(hN o e).2.2.1 _ _ hd
 ·rintro cl v ⟨o,e,hd⟩ rfl
  exact(hN o e).2.1 _ hd
noncomputable def kl(c:Cx)(ow:Ow)(s:Shared)(b:Addr):Prop:=¬c.V b/\(∀x,ow x≠some b)/\∃o,s.heap.get? b=some o/\(∀v,o.data≠.cell v)/\(∀es ep,o.data≠.dict es ep)
noncomputable def pinAt(c:Cx)(h:Heap)(fp:List Addr)(hl:List (Value×D)):Cx:={c with pin:=λa=>if a∈fp then h.get? a else c.pin a,held:=hl++c.held}
theorem Inv.pinned{ow:Ow}{s:Shared}(I:Inv c aa Z ow s){fp:List Addr}{hl:List (Value×D)}(hp:∀b∈fp,kl c ow s b)(hh:∀p∈hl,ag s.heap (av c ow) p.1 p.2):Inv (pinAt c s.heap fp hl) aa Z ow s:=by
 have hpin:∀a o,(pinAt c s.heap fp hl).pin a=some o->s.heap.get? a=some o:=λa o e=>by
  have e':(if a∈fp then s.heap.get? a else c.pin a)=some o:=e
  split at e'
  ·exact e'
  ·exact I.bs.pins a o e'
 have gE:∀a,a∉fp->c.pin a=none->(pinAt c s.heap fp hl).pin a=none:=λa h e=>by
  refine(?_:(if a∈fp then s.heap.get? a else c.pin a)=none)
  exact ab (if_neg h) e
 refine ah I.frm.ns λm hm hv=>⟨⟨I.ok.vd,I.ok.vsa,I.ok.vseq,I.ok.vco,I.ok.jin,I.ok.jk,I.ok.tab,I.ok.tabJ,I.ok.tabK,I.ok.sn,λa o e=>?_,I.ok.tp⟩,I.oin,⟨I.bs.kp,hpin,I.bs.sta,I.bs.j,I.bs.os,I.bs.gens,I.bs.tk⟩,
  I.frm.kind,I.frm.glob,I.frm.bins,I.frm.loc,I.frm.locD,⟨m,hm,λx l e=>?_⟩,I.frm.cnew,I.frm.cD,I.frm.cinj,I.frm.onew,I.frm.oinj,gE _ (λh=>?_) I.frm.pL,λx cl h1 h2=>gE _ (λh=>?_) (I.frm.pC x cl h1 h2),λx a e=>gE _ (λh=>(hp a h).2.1 x e) (I.frm.pO x a e),λp q=>?_⟩
 ·have e':(if a∈fp then s.heap.get? a else c.pin a)=some o:=e
  split at e'
  ·rename_i h;exact(hp a h).1
  ·exact I.ok.pv a o e'
 ·exact ah (hv x l e) λv h1 h2=>aJ v h1 (by cases l<;>exact h2)
 ·refine bB (hp _ h) λ_ _ ar=>gV ar λo e _ hd=>lh hm λo' es ep e' ck _=>?_
  replace e':=e▸e';obtain rfl:=Option.some.inj e'
  exact hd _ _ ck
 ·refine bB (hp _ h) λ_ _ ar=>gV ar λo e hd _=>cR (I.frm.cnew x cl h1 h2) λv o' e' ck=>?_
  replace e':=e▸e';obtain rfl:=Option.some.inj e'
  exact hd _ ck
 ·rcases List.mem_append.mp q with q | q
  ·exact hh p q
  ·exact I.frm.held p q
theorem Inv.fS{ow:Ow}{s':Shared}{h:Heap}{fp:List Addr}{hl:List (Value×D)}(I:Inv (pinAt c h fp hl) aa Z ow s')(hb:∀a o,c.pin a=some o->h.get? a=some o)(pv:∀a o,c.pin a=some o->¬c.V a):Inv c aa Z ow s':=by
 have key:∀a o,c.pin a=some o->(pinAt c h fp hl).pin a=some o:=λa o e=>by
  show(if a∈fp then h.get? a else c.pin a)=some o
  refine bq (λ_=>?_) λ_=>?_
  ·exact hb a o e
  ·exact e
 have no:∀{a},(pinAt c h fp hl).pin a=none->c.pin a=none:=λ{a} e=>by
  cases q:c.pin a with
  | none=>rfl
  | some o=>replace e:=(key a o q)▸e;exact sN e
 refine ah I.frm.ns λm hm hv=>⟨⟨I.ok.vd,I.ok.vsa,I.ok.vseq,I.ok.vco,I.ok.jin,I.ok.jk,I.ok.tab,I.ok.tabJ,I.ok.tabK,I.ok.sn,pv,I.ok.tp⟩,I.oin,⟨I.bs.kp,λa o e=>I.bs.pins a o (key a o e),I.bs.sta,I.bs.j,I.bs.os,I.bs.gens,I.bs.tk⟩,
  I.frm.kind,I.frm.glob,I.frm.bins,I.frm.loc,I.frm.locD,⟨m,hm,λx l e=>?_⟩,I.frm.cnew,I.frm.cD,I.frm.cinj,I.frm.onew,I.frm.oinj,no I.frm.pL,λx cl h1 h2=>no (I.frm.pC x cl h1 h2),λx a e=>no (I.frm.pO x a e),λp q=>I.frm.held p (List.mem_append_right _ q)⟩
 exact ah (hv x l e) λv h1 h2=>aJ v h1 (by cases l<;>exact h2)
theorem mM{h:Heap}{fp:List Addr}{hl:List (Value×D)}{s:Shared}(b:Bs (pinAt c h fp hl) s){a:Addr}{o:Obj}(ha:a∈fp)(e:h.get? a=some o):s.heap.get? a=some o:=b.pins a o (by
 refine(?_:(if a∈fp then h.get? a else c.pin a)=some o)
 exact ab (if_pos ha)<|e)
structure po(c:Cx)(A:Around)(ow:Ow)(s s':Shared)(i:Addr)(ds:List D):Prop where
 step:Step c s s'
 new:s.heap.objs.size<=i
 lt:i < s'.heap.objs.size
 w:∃(fp:List Addr) (hl:List (Value×D)) (P:Nat->Value->Prop) (St:Nat->Heap->Prop),Walks pg c.w A i fp [i] ds.length P St/\St 0 s'.heap/\(∀b∈fp,b≠i->kl c ow s' b)/\(∀k h o,St k h->h.get? i=some o->kC o)/\(∀k h,St k h->∃o,h.get? i=some o)/\(∀p∈hl,ag s'.heap (av c ow) p.1 p.2)/\
  ∀k v,P k v->∃d,ds[k]? =some d/\((∀h O,ag h O v d)∨(v,d)∈hl)
noncomputable def It(c:Cx)(n:Nat)(aa:Env)(Z:Ctx)(e:Expr)(ds:List D):Prop:=
 ∀(A:Around) (s:Shared) (Q:Value->Shared->Prop) (E:Value->Shared->Prop) (ow:Ow),bh n A->Inv c aa Z ow s->(∀i s1 s',Step c s s1->po c A ow s1 s' i ds->Q (.ref i) s')->wpAny (model pg c.w) A (eval e aa) (λv s1=>wpAny (model pg c.w) A (pyIter v) Q E s1) E s
noncomputable def rY(c:Cx)(n:Nat)(l:LV)(ds:List D):Prop:=
 ∀(aa:Env) (Z:Ctx) (A:Around) (s:Shared) (Q:Value->Shared->Prop) (E:Value->Shared->Prop) (ow:Ow) (v:Value),bh n A->Inv c aa Z ow s->bL c ow s.heap v l->(∀i s',po c A ow s s' i ds->Q (.ref i) s')->wpAny (model pg c.w) A (pyIter v) Q E s
theorem uI{e:Expr}{l:LV}{ds:List D}(h1:Ev c n aa Z e l)(h2:rY c n l ds):It c n aa Z e ds:=λA s Q E ow rm I h=>h1.run A s _ E ow rm I λv s1 r st=>h2 aa Z A s1 Q E ow v rm (I.step st) r λi s' x=>h i s1 s' st x
noncomputable def eP(c c':Cx):Prop:=∃p h,c'={c with pin:=p,held:=h}
theorem eP.refl(c:Cx):eP c c:=⟨c.pin,c.held,rfl⟩
theorem Bs.fS{s':Shared}{h:Heap}{fp:List Addr}{hl:List (Value×D)}(b:Bs (pinAt c h fp hl) s')(hb:∀a o,c.pin a=some o->h.get? a=some o):Bs c s':=
 ⟨b.kp,λa o e=>b.pins a o (by
  refine(?_:(if a∈fp then h.get? a else c.pin a)=some o)
  refine bq (λ_=>?_) λ_=>?_
  ·exact hb a o e
  ·exact e),b.sta,b.j,b.os,b.gens,b.tk⟩
theorem HQ{test:Expr}{body:List Stmt}{pos:Pos}{P:az->Prop}(M:Nat->Ctx->Prop)(k:Nat)(h0:M k Z)
  (turn:∀k af,M k af->∃b,Cd c n aa af test b/\(b=true->bS c n aa af body λo=>match o with
   | .next aF=>∃m,m < k/\M m aF
   | .cont aF=>∃m,m < k/\M m aF
   | .brk aF=>P (.next aF)
   | .ret d=>P (.ret d))/\(b=false->P (.next af))):bY c n aa Z (.While test body [] pos) P:=by
 refine⟨?_⟩
 intro A s Q E ow rm I q
 refine wpAny_While (codeAny_whileLoop (λk s=>∃af ow,M k af/\Inv c aa af ow s) (λk s hI=>?_) k ⟨Z,ow,h0,I⟩)
 refine cR hI λaf aH hM I'=>gV (turn k af hM) λb h1 h2 h3=>h1 A s _ _ aH rm I' λs1 al=>?_
 cases b with
 | true=>
  dsimp only
  refine(h2 rfl).run A s1 _ _ aH rm (I'.step al) λf s2 o ho ok=>?_
  cases o with
  | next aF=>cases f<;>first | exact ok.elim | (obtain⟨m,hm,hM'⟩:=ho;obtain⟨f9,I2⟩:=ok;exact⟨m,hm,aF,f9,hM',I2⟩)
  | cont aF=>cases f<;>first | exact ok.elim | (obtain⟨m,hm,hM'⟩:=ho;obtain⟨f9,I2⟩:=ok;exact⟨m,hm,aF,f9,hM',I2⟩)
  | brk aF=>cases f<;>first | exact ok.elim | exact q _ _ (.next aF) ho ok
  | ret d=>cases f<;>first | exact ok.elim | exact q _ _ (.ret d) ho ok
 | false=>
  exact wpAny_execs_nil (q _ _ (.next af) (h3 rfl) ⟨aH,I'.step al⟩)
noncomputable def AY(c:Cx)(n:Nat)(aa:Env)(Z:Ctx)(e:Expr)(Pd:List D->Prop):Prop:=
 ∀(A:Around) (s:Shared) (Q:Value->Shared->Prop) (E:Value->Shared->Prop) (ow:Ow),bh n A->Inv c aa Z ow s->(∀ds,Pd ds->∀i s1 s',Step c s s1->po c A ow s1 s' i ds->Q (.ref i) s')->wpAny (model pg c.w) A (eval e aa) (λv s1=>wpAny (model pg c.w) A (pyIter v) Q E s1) E s
theorem zo{x:String}{p:Pos}{iter:Expr}{body:List Stmt}{pos:Pos}{P:az->Prop}{Pd:List D->Prop}(hx:cr c aa x)(ed:AY c n aa Z iter Pd)(M:List D->Nat->Ctx->Prop)(h0:∀ds,Pd ds->M ds 0 Z)
  (turn:∀ds,Pd ds->∀c' i af d,eP c c'->M ds i af->ds[i]? =some d->bS c' n aa (upd af x (.d d)) body λo=>match o with
   | .next aF=>M ds (i+1) aF
   | .cont aF=>M ds (i+1) aF
   | .brk aF=>P (.next aF)
   | .ret d=>P (.ret d))
  (je:∀ds,Pd ds->∀af,M ds ds.length af->P (.next af)) (hs:∀x,foldedSetIterable iter aa x=pure x:=by intro _;rfl):bY c n aa Z (.For (.Name (Str.ofString x) p) iter body [] pos) P:=by
 refine⟨?_⟩
 intro A s Q E ow rm I q
 refine wpAny_For (ed A s _ E ow rm I λds gZ it s1 s2 al X=>?_) hs
 refine jQ X.w λfp hl Pv St W f8 hfp ar=>jh ar λhK hex hheld hP=>?_
 have I1:=I.step al
 have I2:=I1.step X.step
 have gf:c.h₀.objs.size<=it:=Nat.le_trans I1.bs.size X.new
 have hD:¬c.D it:=gr I1.ok I1.bs X.new
 have hpin:c.pin it=none:=I1.bs.mQ X.new
 let c1:=pinAt c s2.heap [] hl
 have base:Inv c1 aa Z ow s2:=I2.pinned (λ_ h=>nomatch h) hheld
 have hc1p:∀a,c1.pin a=c.pin a:=λa=>by show(if a∈([]:List Addr)then s2.heap.get? a else c.pin a)=_;exact if_neg (of_decide_eq_true rfl)
 refine codeAny_forLoop_any (λk s=>∃i af aH,k=ds.length+1 - i/\i<=ds.length/\M ds i af/\Inv c1 aa af aH s/\St i s.heap/\∀b∈fp,b≠it->kl c aH s b) (λk s hI=>?_) (ds.length+1) ⟨0,Z,ow,rfl,Nat.zero_le _,h0 ds gZ,base,f8,hfp⟩
 obtain⟨i,af,aH,rfl,hi,hM,I',dj,hpk⟩:=hI
 have noit:∀o,s.heap.get? it=some o->kC o:=λo e=>hK i _ o dj e
 have noow:∀x,aH x≠some it:=λx e=>by
  refine bB (I'.frm.onew x it e) λ_ _ ar=>cY ar λxs j h=>?_
  exact(noit _ h).1 _ _ rfl
 by_cases bl:i < ds.length
 ·refine iw (W.item i s _ _ bl dj λv h' tk hv jd hk hz=>?_)
  have hk':∀b o,b≠it->s.heap.get? b=some o->h'.get? b=some o:=λb o hb e=>hk b o (by simpa using hb) e
  have I3:Inv c1 aa af aH {s with heap:=h',toks:=tk}:=I'.chg hk' hz.1 gf hD (by exact hpin) noit hz.2
  refine ah (hP i v hv) λd hd hr=>?_
  have rv:ag h' (av c1 aH) v d:=hr.elim (λh=>h _ _) λh=>I3.frm.held (v,d) (List.mem_append_left _ h)
  have pk:∀b∈fp,kl c1 aH {s with heap:=h',toks:=tk} b:=λb hb=>by
   by_cases e:b=it
   ·refine ab e ?_
    obtain⟨o,ho⟩:=hex _ _ jd
    exact dQ (λh=>hD (I.ok.vd _ h)) noow ⟨o,ho,(hK _ _ _ jd ho).2.1,(hK _ _ _ jd ho).2.2.1⟩
   ·refine bB (hpk b hb e) λh1 h2 ar=>ah ar λo ho h3=>?_
    exact dQ h1 h2 ⟨o,hk' b o e ho,h3⟩
  have I4:=I3.pinned (hl:=[]) pk (λ_ h=>nomatch h)
  refine wpAny_of_eq (show letOwnedTupleGo (.Name (Str.ofString x) p) (.ref it) v=pure ()from rfl)<|wpAny_assign_Name (fK (c:=pinAt c1 h' fp []) I4 hx rv λs3 I5=>?_)
  refine(turn ds gZ (pinAt c1 h' fp []) i af d ⟨_,_,rfl⟩ hM hd).run A s3 _ _ aH rm I5 λf s4 o ho ok=>?_
  have back:∀{aF jc},Inv (pinAt c1 h' fp []) aa aF jc s4->M ds (i+1) aF->∃m,m < ds.length+1 - i/\∃i af aH,m=ds.length+1 - i/\i<=ds.length/\M ds i af/\Inv c1 aa af aH s4/\St i s4.heap/\∀b∈fp,b≠it->kl c aH s4 b:=λ{aF jc} I6 hM'=>by
   refine⟨ds.length+1 - (i+1),by lia,i+1,aF,jc,rfl,bl,hM',I6.fS I3.bs.pins I3.ok.pv,W.frame _ _ _ jd λb hb o e=>mM I6.bs hb e,λb hb au=>?_⟩
   refine bB (pk b hb) λh1 h2 ar=>ah ar λo ho h3=>⟨h1,λx e=>?_,o,mM I6.bs hb ho,h3⟩
   have:=I6.frm.pO x b e
   have e2:(if b∈fp then h'.get? b else c1.pin b)=none:=this
   replace e2:=ho▸(if_pos hb)▸e2;exact sN e2
  cases o with
  | next aF=>cases f<;>first | exact ok.elim | (exact aW ok λf9 I6=>back I6 ho)
  | cont aF=>cases f<;>first | exact ok.elim | (exact aW ok λf9 I6=>back I6 ho)
  | brk aF=>cases f<;>first | exact ok.elim | (exact aW ok λf9 I6=>q _ _ (.next aF) ho ⟨f9,(I6.fS I3.bs.pins I3.ok.pv).fS I2.bs.pins I2.ok.pv⟩)
  | ret d=>cases f<;>first | exact ok.elim | exact q _ _ (.ret d) ho ⟨(Bs.fS (Bs.fS ok.1 I3.bs.pins) I2.bs.pins),ok.2⟩
 ·have du:i=ds.length:=by exact Nat.le_antisymm ‹_› (Nat.not_lt.mp ‹_›)
  subst du
  refine iw (W.done s _ _ dj λh' tk hk hz=>?_)
  have I3:Inv c1 aa af aH {s with heap:=h',toks:=tk}:=I'.chg (λb o hb e=>hk b o (by simpa using hb) e) hz.1 gf hD (by exact hpin) noit hz.2
  exact wpAny_execs_nil (q _ _ (.next af) (je ds gZ _ hM) ⟨aH,I3.fS I2.bs.pins I2.ok.pv⟩)
theorem z9{x:String}{p:Pos}{iter:Expr}{body:List Stmt}{pos:Pos}{P:az->Prop}{ds:List D}(hx:cr c aa x)(ed:It c n aa Z iter ds)(M:Nat->Ctx->Prop)(h0:M 0 Z)
  (turn:∀c' i af d,eP c c'->M i af->ds[i]? =some d->bS c' n aa (upd af x (.d d)) body λo=>match o with
   | .next aF=>M (i+1) aF
   | .cont aF=>M (i+1) aF
   | .brk aF=>P (.next aF)
   | .ret d=>P (.ret d))
  (je:∀af,M ds.length af->P (.next af)) (hs:∀x,foldedSetIterable iter aa x=pure x:=by intro _;rfl):bY c n aa Z (.For (.Name (Str.ofString x) p) iter body [] pos) P:=
 zo (Pd:=(·=ds)) hx (λA s Q E ow rm I h=>ed A s Q E ow rm I λi s1 s' st X=>h ds rfl i s1 s' st X) (λ_=>M) (λ_ _=>h0) (λ_ e=>e▸turn) (λ_ e=>e▸je) hs
end
end
noncomputable def gm(cells:List (Str×Addr)):List (Str×NameKind)->List (Str×Addr)->List (Str×Addr)
 | [],acc=>acc
 | (n,k)::r,acc=>if k==.free then gm cells r ((n,(cells.lookup n).getD 0)::acc)else gm cells r acc
theorem By{scope:Scope}{aa:Env}(h:∀y∈scope.names,y.2=.free->(aa.cells.lookup y.1).isSome=true):closureFor scope aa=pure (gm aa.cells scope.names []):=by
 have key:∀(f:Str×NameKind->List (Str×Addr)->Sem (ForInStep (List (Str×Addr)))) (hf:∀n k cs,f (n,k) cs=if k==NameKind.free then(do let a <- cellOf aa n;pure (.yield ((n,a)::cs)))else pure (.yield cs))
   (names:List (Str×NameKind)) (acc:List (Str×Addr)),(∀y∈names,y.2=.free->(aa.cells.lookup y.1).isSome=true)->forIn names acc f=pure (gm aa.cells names acc):=by
  intro f hf names
  induction names with
  | nil=>intro acc _;rfl
  | cons y r ih=>
   intro acc h
   obtain⟨n,k⟩:=y
   have hr:=λacc=>ih acc λy hy=>h y (List.mem_cons_of_mem _ hy)
   rw[List.forIn_cons,hf]
   dsimp only[gm]
   cases hk:k==NameKind.free with
   | true=>
    refine aW (Option.isSome_iff_exists.mp (h (n,k) List.mem_cons_self (by simpa using hk:k=.free))) λa ha=>?_
    have:cellOf aa n=pure a:=by unfold cellOf;exact ab ha rfl
    simp only[if_true,this]
    exact ab ha<|hr _
   | false=>
    exact hr _
 unfold closureFor
 dsimp only
 rw[key _ ?_ scope.names [] h]
 ·rfl
 ·intro n k cs
  cases hk:k==NameKind.free<;>rfl
theorem wO{cells:List (Str×Addr)}{names:List (Str×NameKind)}:∀{acc:List (Str×Addr)} {n:Str} {a:Addr},(n,a)∈gm cells names acc->(n,a)∈acc∨((n,NameKind.free)∈names/\a=(cells.lookup n).getD 0):=by
 induction names with
 | nil=>exact .inl
 | cons p r ih=>
  intro acc n a
  refine bq (P:=λl=>(n,a)∈l->_) (λe=>?_) λ_ h=>(ih h).imp id λh=>⟨List.mem_cons_of_mem _ h.1,h.2⟩
  refine λh=>(ih h).elim (λh=>(List.mem_cons.mp h).elim (λq=>.inr ?_) .inl) λh=>.inr ⟨List.mem_cons_of_mem _ h.1,h.2⟩
  cases q;exact⟨eq_of_beq e▸List.mem_cons_self,rfl⟩
theorem CK{cells:List (Str×Addr)}{names:List (Str×NameKind)}:∀{acc:List (Str×Addr)} {n:Str},((n,NameKind.free)∈names∨(acc.lookup n).isSome=true)->((gm cells names acc).lookup n).isSome=true:=by
 induction names with
 | nil=>exact λh=>h.elim (λh=>nomatch h) id
 | cons p r ih=>
  intro acc n h
  have step:∀a,(acc.lookup n).isSome=true->((a::acc).lookup n).isSome=true:=λa h=>by
   refine ab List.lookup_cons ?_
   split
   ·rfl
   ·exact h
  refine bq (P:=λl:List (Str×Addr)=>(l.lookup n).isSome=true) (λ_=>ih ?_) λk=>ih ?_
  ·refine h.elim (λh=>(List.mem_cons.mp h).elim (λe=>.inr ?_) .inl) λh=>.inr (step _ h)
   subst e;refine ab List.lookup_cons ?_;rw[beq_self_eq_true];rfl
  ·refine h.elim (λh=>(List.mem_cons.mp h).elim (λe=>absurd ?_ k) .inl) .inr
   subst e;rfl
theorem BD{names:List (Str×NameKind)}:∀{k:Nat} {acc:List (Str×Addr)} {n:Str} {a:Addr},(n,a)∈cellsFrom k names acc->(n,a)∈acc∨((n,NameKind.cell)∈names/\k<=a):=by
 induction names with
 | nil=>exact .inl
 | cons p r ih=>
  intro k acc n a
  refine bq (P:=λl=>(n,a)∈l->_) (λe=>?_) λ_ h=>(ih h).imp id λh=>⟨List.mem_cons_of_mem _ h.1,h.2⟩
  refine λh=>(ih h).elim (λh=>(List.mem_cons.mp h).elim (λq=>.inr ?_) .inl) λh=>.inr ⟨List.mem_cons_of_mem _ h.1,Nat.le_of_succ_le h.2⟩
  cases q;exact⟨eq_of_beq e▸List.mem_cons_self,Nat.le_refl _⟩
theorem BE{names:List (Str×NameKind)}:∀{k:Nat} {acc:List (Str×Addr)},(∀n n' a,(n,a)∈acc->(n',a)∈acc->n=n')->(∀n a,(n,a)∈acc->a < k)->∀n n' a,(n,a)∈cellsFrom k names acc->(n',a)∈cellsFrom k names acc->n=n':=by
 induction names with
 | nil=>exact λh _=>h
 | cons p r ih=>
  intro k acc h hl
  refine bq (P:=λl=>∀n n' a,(n,a)∈l->(n',a)∈l->n=n') (λ_=>ih (λn n' a h1 h2=>?_) λn a h1=>?_) λ_=>ih h hl
  ·refine(List.mem_cons.mp h1).elim (λe=>(List.mem_cons.mp h2).elim (λe'=>(Prod.mk.inj e).1.trans (Prod.mk.inj e').1.symm) λh2=>?_) λh1=>(List.mem_cons.mp h2).elim (λe=>?_) (h n n' a h1)
   ·exact absurd ((Prod.mk.inj e).2▸hl _ _ h2) (Nat.lt_irrefl _)
   ·exact absurd ((Prod.mk.inj e).2▸hl _ _ h1) (Nat.lt_irrefl _)
  ·exact(List.mem_cons.mp h1).elim (λe=>(Prod.mk.inj e).2▸Nat.lt_succ_self _) λh1=>Nat.lt_succ_of_lt (hl _ _ h1)
theorem r5:∀{names:List (Str×NameKind)} {k:Nat} {acc:List (Str×Addr)} {n:Str},(n,NameKind.cell)∉names->(cellsFrom k names acc).lookup n=acc.lookup n
 | [],_,_,_,_=>rfl
 | (m,kd)::r,k,acc,n,h=>by
  rw[List.mem_cons,not_or]at h
  dsimp only[cellsFrom]
  refine bq (λ_=>?_) λ_=>?_
  ·rename_i hk
   have hk':kd=.cell:=by simpa using hk
   subst hk'
   refine ab (r5 h.2)<|ab List.lookup_cons ?_
   have:(n==m)=false:=by
    rw[beq_eq_false_iff_ne];rintro rfl;exact h.1 rfl
   exact ab this rfl
  ·exact r5 h.2
theorem BY(names:List (Str×NameKind)):∀(h:Heap) (acc:List (Str×Addr)) (n:Str) (a:Addr),(n,a)∈cellsFrom h.objs.size names acc->(n,a)∈acc∨(pushCells h names).IsCell a none:=by
 induction names with
 | nil=>exact λ_ _ _ _=>.inl
 | cons p r ih=>
  intro h acc n a hm
  dsimp only[cellsFrom]at hm
  dsimp only[pushCells]
  split at hm
  ·rename_i hk
   rw[if_pos hk]
   replace hm:=(Heap.size_push h {cls:=.type "cell",data:=.cell none})▸hm
   refine(ih _ _ n a hm).elim (λq=>(List.mem_cons.mp q).elim (λe=>.inr ?_) .inl) .inr
   cases e
   exact⟨_,pushCells_keeps r _ _ _ (Heap.get?_push_size _ rfl),rfl⟩
  ·rename_i hk
   exact ab (if_neg hk)<|ih h acc n a hm
theorem r8:∀(names:List (Str×NameKind)) (h:Heap),h.objs.size<=(pushCells h names).objs.size
 | [],_=>Nat.le_refl _
 | (m,kd)::r,h=>by
  dsimp only[pushCells]
  refine bq (λ_=>?_) λ_=>?_
  ·exact Nat.le_trans (by rw[Heap.size_push];exact Nat.le_succ _) (r8 r _)
  ·exact r8 r h
section
structure b9(sc:Scope)(aa:Env):Prop where
 l:∀x,sc.names.lookup x=some .local->aa.kindOf x=some .local
 g:∀x,sc.names.lookup x=some .globalImplicit->aa.kindOf x=some .globalImplicit
 f:∀x,sc.names.lookup x=some .cell∨sc.names.lookup x=some .free->aa.kindOf x=some .cell∨aa.kindOf x=some .free
theorem bI.c{c:Cx}{sc:Scope}{aa:Env}(e:bI c sc aa):b9 sc aa:=⟨λ_ h=>e.kind h,λ_ h=>e.kind h,λ_ h=>h.imp (λh=>e.kind h) λh=>e.kind h⟩
theorem Cw(g:Str->NameKind->NameKind)(x:Str)(l:List (Str×NameKind)):(l.map λy=>(y.1,g y.1 y.2)).lookup x=(l.lookup x).map (g x):=by
 induction l with
 | nil=>
  exact rfl
 | cons pp r ih=>
  obtain⟨n,k⟩:=pp
  refine ab List.map_cons<|ab List.lookup_cons<|ab List.lookup_cons ?_
  cases hx:x==n with
  | true=>
   refine ab (by simpa using hx:x=n) ?_
   rfl
  | false=>exact ih
theorem pI(sc:Scope)(aa:Env)(x:Str):(relabel sc aa).names.lookup x=(sc.names.lookup x).map λk=>if(k==.free&&aa.scope.kind==.function&&aa.kindOf x==some .cell)then .cell else k:=by
 rw[<- Cw (λx k=>if(k==.free&&aa.scope.kind==.function&&aa.kindOf x==some .cell)then .cell else k)]
 unfold relabel
 dsimp only
 congr 2
 funext y
 obtain⟨n,k⟩:=y
 split<;>rfl
structure dN(c c':Cx):Prop where
 w:c'.w=c.w
 V:c'.V=c.V
 J:c'.J=c.J
 D:c'.D=c.D
 os:c'.os=c.os
 tz:c'.tz=c.tz
noncomputable def inner(c:Cx)(h:Heap)(t:Nat)(ow:Ow):Cx:={c with h₀:=h,O:=av c ow,pin:=λ_=>none,held:=[],t₀:=t}
noncomputable def fV(sc:Scope)(aa:Env)(C:Addr):Env:={scope:=relabel sc aa,locals:=C,globals:=aa.globals,cells:=cellsFrom (C+1) sc.names (gm aa.cells sc.names []),qual:=aa.qual,func:=none,code:=aa.code,frame:=aa.frame,builtins:=aa.builtins}
noncomputable def k8(D:Addr):Ow:=λy=>if y="%acc" then some D else none
noncomputable abbrev b6(an:List (String×D)):Ctx:=an.map λp=>(p.1,.d p.2)
structure f7(sc0 sc:Scope)(Z:Ctx)(an:List (String×D)):Prop where
 at_:∀p∈an,find Z p.1=some (.d p.2)/\p.1≠"%acc"/\(Str.ofString p.1,NameKind.free)∈sc.names/\(sc0.names.lookup (Str.ofString p.1)=some .cell∨sc0.names.lookup (Str.ofString p.1)=some .free)
 all:∀y∈sc.names,y.2=.free->∃p∈an,Str.ofString p.1=y.1
 nd:(sc.names.map (·.1)).Nodup
 kind:sc.kind=.function
 cnd:(an.map (·.1)).Nodup
theorem CL{an:List (String×D)}(h:(an.map (·.1)).Nodup){p:String×D}(hp:p∈an):find (b6 an) p.1=some (.d p.2):=by
 induction an with
 | nil=>cases hp
 | cons z r ih=>
  obtain⟨y,d⟩:=z
  rw[List.map_cons,List.nodup_cons]at h
  refine(?_:(if y=p.1 then some (LV.d d)else find (b6 r) p.1)=_)
  rcases List.mem_cons.mp hp with e | hp'
  ·exact ab e<|if_pos rfl
  ·exact ab (if_neg (λe=>h.1 (List.mem_map.mpr ⟨p,hp',e.symm⟩)))<|ih h.2 hp'
theorem mH{β:Type}{l:List (Str×β)}(h:(l.map (·.1)).Nodup){x:Str}{b:β}(hm:(x,b)∈l):l.lookup x=some b:=by
 induction l with
 | nil=>cases hm
 | cons y r ih=>
  obtain⟨n,k⟩:=y
  rw[List.map_cons,List.nodup_cons]at h
  refine ab List.lookup_cons<|Or.elim (List.mem_cons.mp hm) (λe=>?_) (λhm'=>?_)
  ·cases e;simp
  ·have:(x==n)=false:=by
    rw[beq_eq_false_iff_ne];rintro rfl
    exact h.1 (List.mem_map.mpr ⟨(x,b),hm',rfl⟩)
   exact ab this<|ih h.2 hm'
theorem Di{β:Type}{l:List (Str×β)}(h:(l.map (·.1)).Nodup){x:Str}{b b':β}(h1:(x,b)∈l)(h2:(x,b')∈l):b=b':=by
 have e1:=mH h h1
 replace e1:=Eq.trans (Eq.symm (mH h h2)) e1
 exact(Option.some.inj e1).symm
theorem tb{an:List (String×D)}{y:String}{l:LV}(h:find (b6 an) y=some l):∃d,(y,d)∈an/\l=.d d:=by
 induction an with
 | nil=>exact nS h
 | cons p r ih=>
  obtain⟨z,d⟩:=p
  have h':(if z=y then some (LV.d d)else find (b6 r) y)=some l:=h
  split at h'
  ·rename_i e;exact ab e<|aC h'<|aJ d List.mem_cons_self rfl
  ·exact ah (ih h') λd' h1 h2=>aJ d' (List.mem_cons_of_mem _ h1) h2
section
variable {c:Cx} {n:Nat} {aa:Env} {Z:Ctx}
theorem uP{ow:Ow}{s:Shared}(I:Inv c aa Z ow s){a:Addr}(h:av c ow a):a < s.heap.objs.size:=by
 refine Or.elim h (λh=>?_) (λob=>aW ob λx h=>?_)
 ·exact Nat.lt_of_lt_of_le (I.oin _ h) I.bs.size
 ·refine bB (I.frm.onew x a h) λ_ _ ar=>cY ar λxs j e=>?_
  exact Heap.lt_size e
theorem f7.cell{sc0 sc:Scope}{an:List (String×D)}{ow:Ow}{s:Shared}(K:f7 sc0 sc Z an)(ce:b9 sc0 aa)(I:Inv c aa Z ow s){p:String×D}(hp:p∈an):
  ∃cl v,aa.cells.lookup (Str.ofString p.1)=some cl/\s.heap.IsCell cl (some v)/\ag s.heap (av c ow) v p.2:=by
 have aw:=K.at_ p hp
 have h2:=aw.2.1
 refine ah I.frm.ns λm hm hv=>ah (hv _ _ aw.1) λv d0 r=>?_
 rcases d0 with⟨k,_⟩ | ⟨_,cl,e1,e2⟩ | e
 ·refine Or.elim (ce.f _ aw.2.2.2) (λk'=>?_) (λk'=>?_)
  ·have:aa.kindOf (Str.ofString p.1)=some .local:=k
   rw[k']at this;cases this
  ·have:aa.kindOf (Str.ofString p.1)=some .local:=k
   rw[k']at this;cases this
 ·exact mA cl v e1 e2 r
 ·exact absurd e h2
theorem DC{sc0 sc:Scope}{an:List (String×D)}{ow:Ow}{s1 s2:Shared}(I:Inv c aa Z ow s1)(st:Step c s1 s2)(ce:b9 sc0 aa)(K:f7 sc0 sc Z an){A:Around}{E:Value->Shared->Prop}{Q:Value->Env->Shared->Prop}
  (h:∀s4,b9 sc (fV sc aa (s2.heap.objs.size+1))->
   Inv (inner c s1.heap s1.toks ow) (fV sc aa (s2.heap.objs.size+1)) (("%acc",.own [])::b6 an) (k8 s2.heap.objs.size) s4->
   (∀x,sc.names.lookup (Str.ofString x)=some .local∨sc.names.lookup (Str.ofString x)=some .cell->cr (inner c s1.heap s1.toks ow) (fV sc aa (s2.heap.objs.size+1)) x)->
   (∀b o,s2.heap.get? b=some o->s4.heap.get? b=some o)->∀cenv:Env,{cenv with scope:=relabel sc aa}=fV sc aa (s2.heap.objs.size+1)->cenv.locals=s2.heap.objs.size+1->Q (.ref s2.heap.objs.size) cenv s4):
  wpAny (model pg c.w) A (newList []) (λacc s3=>wpAny (model pg c.w) A (newFunctionEnv sc aa.globals (gm aa.cells sc.names []) [] aa.qual none .none (some aa)) (λcenv s4=>Q acc cenv s4) E s3) E s2:=by
 have I2:=I.step st
 have ok:=I.ok
 refine wpAny_newList ?_ (by size_fits)
 simp only[newFunctionEnv,Option.isSome_some,if_true]
 refine wpAny_bind (wpAny_alloc ?_)
 refine wpAny_bind (wpAny_layCells _ (λname kind cells=>by cases kind==NameKind.cell<;>rfl) _ _ _ _ ?_)
 refine wpAny_bind (wpAny_pure (wpAny_pure ?_))
 generalize hH:((s2.heap.push {cls:=.type "list",data:=.seq #[]}).push {cls:=.type "dict",data:=.dict #[]})=H
 have hHs:H.objs.size=s2.heap.objs.size+2:=by refine rB hH ?_;rw[Heap.size_push,Heap.size_push]
 have hC:(s2.heap.push {cls:=.type "list",data:=.seq #[]}).objs.size=s2.heap.objs.size+1:=Heap.size_push ..
 have keepH:∀b o,s2.heap.get? b=some o->H.get? b=some o:=λb o e=>by exact rB hH<|Heap.get?_push_of_some _ (Heap.get?_push_of_some _ e)
 have keep4:∀b o,s2.heap.get? b=some o->(pushCells H sc.names).get? b=some o:=λb o e=>pushCells_keeps _ _ b o (keepH b o e)
 have free_cell:∀n a,(n,a)∈gm aa.cells sc.names []->∃p∈an,Str.ofString p.1=n/\aa.cells.lookup n=some a/\∃v,s1.heap.IsCell a (some v)/\ag s1.heap (av c ow) v p.2:=λn a hm=>by
  rcases wO hm with h | ⟨h1,h2⟩
  ·exact nomatch h
  ·refine ah (K.all _ h1 rfl) λp hp am=>?_;subst am
   refine cw (K.cell ce I hp) λcl v e1 e2 e3=>?_
   rw[e1]at h2
   exact ab h2<|pD p hp rfl e1 ⟨v,e2,e3⟩
 have cells_eq:(fV sc aa (s2.heap.objs.size+1)).cells=cellsFrom H.objs.size sc.names (gm aa.cells sc.names []):=by
  dsimp only[fV];exact ab hHs rfl
 have cmem:∀{x cl},(fV sc aa (s2.heap.objs.size+1)).cells.lookup x=some cl->(x,cl)∈gm aa.cells sc.names []∨(H.objs.size<=cl/\(pushCells H sc.names).IsCell cl none):=λ{x cl} e=>by
  have hm:=PySem.mem_of_lookup e
  replace hm:=cells_eq▸hm
  rcases BD hm with h | ⟨h1,h2⟩
  ·exact .inl h
  ·rcases BY _ _ _ _ _ hm with q | q
   ·exact .inl q
   ·exact .inr ⟨h2,q⟩
 have bV:b9 sc (fV sc aa (s2.heap.objs.size+1)):=by
  have e:∀x,(fV sc aa (s2.heap.objs.size+1)).kindOf x=(relabel sc aa).names.lookup x:=λx=>rfl
  refine⟨λx h=>?_,λx h=>?_,λx h=>?_⟩
  ·rw[e,pI,h];rfl
  ·rw[e,pI,h];rfl
  ·rw[e,pI]
   refine Or.elim h (λh=>?_) (λh=>?_)
   ·exact ab h<| .inl rfl
   ·refine ab h ?_;rw[Option.map_some]
    by_cases hc:(NameKind.free==NameKind.free&&aa.scope.kind==.function&&aa.kindOf x==some .cell)=true
    ·exact ab (if_pos hc)<| .inl rfl
    ·exact ab (if_neg hc)<| .inr rfl
 have size1:s1.heap.objs.size<=s2.heap.objs.size:=st.kp.1
 have stp:Step c s2 {s2 with heap:=pushCells H sc.names}:=.keep ok (Nat.le_trans (by lia) (r8 _ _)) keep4
 have I4:=I2.step stp
 have place:∀x,sc.names.lookup (Str.ofString x)=some .local∨sc.names.lookup (Str.ofString x)=some .cell->cr (inner c s1.heap s1.toks ow) (fV sc aa (s2.heap.objs.size+1)) x:=λx hx=>by
  refine Or.elim hx (λhx=>?_) (λhx=>?_)
  ·exact .inl (bV.l _ hx)
  ·have hk:(fV sc aa (s2.heap.objs.size+1)).kindOf (Str.ofString x)=some .cell:=by
    show(relabel sc aa).names.lookup (Str.ofString x)=_
    rw[pI,hx];rfl
   obtain⟨cl,dS⟩:=Option.isSome_iff_exists.mp (cellsFrom_some sc.names (s2.heap.objs.size+1+1) (gm aa.cells sc.names []) _ hx)
   refine .inr ⟨hk,cl,dS,?_⟩
   show s1.heap.objs.size<=cl
   rcases cmem dS with h | ⟨h,_⟩
   ·rcases wO h with h | ⟨h1,_⟩
    ·cases h
    ·have:=mH K.nd h1
     replace this:=hx▸this;cases this
   ·lia
 refine h {s2 with heap:=pushCells H sc.names} bV ?_ place keep4 _ ?_ ?_
 ·refine⟨⟨ok.vd,ok.vsa,ok.vseq,ok.vco,ok.jin,ok.jk,ok.tab,ok.tabJ,ok.tabK,λa ha=>Nat.lt_of_lt_of_le (ok.sn a ha) I.bs.size,(λ_ _ e=>nomatch e),λtz=>Nat.lt_of_lt_of_le (I.ok.tp tz) I.bs.tk⟩,λa ha=>uP I ha,
   ⟨st.kp.trans stp.kp,(λ_ _ e=>nomatch e),I4.bs.sta,I4.bs.j,I4.bs.os,I4.bs.gens,Nat.le_trans st.tk stp.tk⟩,
   K.kind,I.frm.glob,I.frm.bins,(by show s1.heap.objs.size<=s2.heap.objs.size+1;exact Nat.le_succ_of_le ‹_›),(by exact gr ok I2.bs (Nat.le_succ _)),⟨λ_=>none,?_,λy l hf=>?_⟩,λx cl e gf=>?_,λx cl e=>?_,λx y cl e1 e2=>?_,λx a e=>?_,λx y a e1 e2=>?_,
   rfl,(λ_ _ _ _=>rfl),(λ_ _ _=>rfl),(λp hp=>nomatch hp)⟩
  ·refine Heap.Ns.keeps ?_ (pushCells_keeps _ _)
   have:=Heap.Ns.new (s2.heap.push {cls:=.type "list",data:=.seq #[]}) (.type "dict")
   rw[hH,hC]at this
   exact this
  ·have e9:(if "%acc"=y then some (LV.own [])else find (b6 an) y)=some l:=hf
   split at e9
   ·rename_i e
    refine rB e<|aC e9<|⟨.ref s2.heap.objs.size,.inr (.inr rfl),s2.heap.objs.size,[],rfl,rfl,⟨0,pushCells_keeps _ _ _ _ ?_⟩,.nil⟩
    exact rB hH<|Heap.get?_push_of_some _ (Heap.get?_push_size _ rfl)
   ·rename_i au
    refine ah (tb e9) λd hd am=>ab am<|jh (K.at_ _ hd) λh1 h2 h3 h4=>cw (K.cell ce I hd) λcl v e1 e2 e3=>?_
    have hlk:(fV sc aa (s2.heap.objs.size+1)).cells.lookup (Str.ofString y)=some cl:=by
     show(cellsFrom (s2.heap.objs.size+1+1) sc.names (gm aa.cells sc.names [])).lookup (Str.ofString y)=some cl
     refine ab (r5 (λhm=>nomatch Di K.nd hm h3)) ?_
     obtain⟨a,ha⟩:=Option.isSome_iff_exists.mp (CK (cells:=aa.cells) (acc:=[]) (.inl h3))
     refine gC (free_cell _ _ (PySem.mem_of_lookup ha)) λ_ _ _ e4 _=>?_
     have e1':aa.cells.lookup (Str.ofString y)=some cl:=e1
     rw[e1']at e4
     refine ab ha ?_;rw[e4]
    refine⟨v,.inr (.inl ⟨bV.f _ (.inr (mH K.nd h3)),cl,hlk,?_⟩),?_⟩
    ·exact uc (sX ok (I.frm.cD _ _ e1) st.kp e2) λo e=>keep4 _ o e
    ·refine(e3.step ok I.bs st).mono (h':=pushCells H sc.names) λa o xs k e hd ho=>⟨keep4 a o e,?_⟩
     rintro(q | ⟨z,q⟩)
     ·exact ho q
     ·unfold k8 at q
      split at q
      ·obtain rfl:=Option.some.inj q
       exact Nat.lt_irrefl _ (Heap.lt_size e)
      ·exact nS q
  ·rcases cmem e with q | ⟨_,q⟩
   ·refine gC (free_cell _ _ q) λ_ _ _ _ ar=>ah ar λv q2 _=>ah q2 λo ho _=>?_
    exact absurd (Heap.lt_size ho) (Nat.not_lt.mpr gf)
   ·exact⟨none,q⟩
  ·rcases cmem e with q | ⟨q,_⟩
   ·exact gC (free_cell _ _ q) λ_ _ _ q1 _=>I.frm.cD _ _ q1
   ·exact gr ok I2.bs (by lia)
  ·have m1:=PySem.mem_of_lookup e1
   have m2:=PySem.mem_of_lookup e2
   refine BE (λn n' a h1 h2=>?_) (λn a h1=>?_) x y cl m1 m2
   ·refine gC (free_cell _ _ h1) λ_ _ _ q1 _=>gC (free_cell _ _ h2) λ_ _ _ q2 _=>?_
    exact I.frm.cinj _ _ _ q1 q2
   ·refine gC (free_cell _ _ h1) λ_ _ _ _ ar=>ah ar λv bd _=>ah bd λo ho _=>?_
    exact Nat.lt_of_lt_of_le (Heap.lt_size ho) (by lia)
  ·unfold k8 at e
   split at e
   ·refine aC e<|⟨size1,gr ok I2.bs (Nat.le_refl _),#[],0,pushCells_keeps _ _ _ _ ?_⟩
    exact rB hH<|Heap.get?_push_of_some _ (Heap.get?_push_size _ rfl)
   ·exact nS e
  ·unfold k8 at e1 e2
   split at e1<;>split at e2
   ·rename_i q1 q2;refine ab q1 ?_;rw[q2]
   ·exact nS e2
   ·cases e1
   ·cases e1
 ·unfold fV
  dsimp only
  refine ab hC ?_;rw[hHs]
 ·exact hC
end
end
section
structure o6(c:Cx)(A:Around)(i:Addr)(ds:List D)(fp:List Addr)(hl:List (Value×D))(P:Nat->Value->Prop)(St:Nat->Heap->Prop):Prop where
 w:Walks pg c.w A i fp [i] ds.length P St
 k:∀k h o,St k h->h.get? i=some o->kC o
 ex:∀k h,St k h->∃o,h.get? i=some o
 p:∀k v,P k v->∃d,ds[k]? =some d/\((∀h O,ag h O v d)∨(v,d)∈hl)
 ge:c.h₀.objs.size<=i
 D:¬c.D i
 pin:c.pin i=none
 held:∀p∈hl,p∈c.held
noncomputable def ia(c:Cx)(aa:Env)(i:Addr)(ds:List D)(fp:List Addr)(St:Nat->Heap->Prop)(M:Nat->Ctx->Ow->Prop)(k:Nat)(s:Shared):Prop:=
 ∃j af aH,k=ds.length+1 - j/\j<=ds.length/\M j af aH/\Inv c aa af aH s/\St j s.heap/\∀b∈fp,b≠i->kl c aH s b
section
variable {c:Cx} {n:Nat} {aa:Env} {Z:Ctx}
theorem wl{A:Around}{i:Addr}{ds:List D}{fp:List Addr}{hl:List (Value×D)}{P:Nat->Value->Prop}{St:Nat->Heap->Prop}(L:o6 c A i ds fp hl P St){M:Nat->Ctx->Ow->Prop}{k:Nat}{s:Shared}(hs:ia c aa i ds fp St M k s)
  {Q:Option Value->Shared->Prop} {E:Value->Shared->Prop}
  (h1:∀j af aH v d s3,M j af aH->ds[j]? =some d->j < ds.length->Inv (pinAt c s3.heap fp []) aa af aH s3->ag s3.heap (av c aH) v d->Inv c aa af aH s3->(∃o,s3.heap.get? i=some o/\kC o)->
   (∀aF jc s4,Inv (pinAt c s3.heap fp []) aa aF jc s4->M (j+1) aF jc->∃m,m < k/\ia c aa i ds fp St M m s4)->Q (some v) s3)
  (h2:∀af aH s3,M ds.length af aH->Inv c aa af aH s3->Q none s3):wpAny (model pg c.w) A (pyNext (.ref i)) Q E s:=by
 refine MT hs λj af aH dH hi hM I' ar=>?_;obtain⟨dj,hpk⟩:=ar
 have noit:∀o,s.heap.get? i=some o->kC o:=λo e=>L.k j _ o dj e
 have noow:∀x,aH x≠some i:=λx e=>by
  refine bB (I'.frm.onew x i e) λ_ _ ar=>cY ar λxs q h=>?_
  exact(noit _ h).1 _ _ rfl
 by_cases bl:j < ds.length
 ·refine iw (L.w.item j s _ _ bl dj λv h' tk hv jd hk hz=>?_)
  have hk':∀b o,b≠i->s.heap.get? b=some o->h'.get? b=some o:=λb o hb e=>hk b o (by simpa using hb) e
  have I3:Inv c aa af aH {s with heap:=h',toks:=tk}:=I'.chg hk' hz.1 L.ge L.D L.pin noit hz.2
  refine ah (L.p j v hv) λd hd hr=>?_
  have pk:∀b∈fp,kl c aH {s with heap:=h',toks:=tk} b:=λb hb=>by
   by_cases e:b=i
   ·exact ab e<|aW (L.ex _ _ jd) λo ho=>dQ (λh=>L.D (I'.ok.vd _ h)) noow ⟨o,ho,(L.k _ _ _ jd ho).2.1,(L.k _ _ _ jd ho).2.2.1⟩
   ·refine bB (hpk b hb e) λh1 h2 ar=>ah ar λo ho h3=>?_
    exact dQ h1 h2 ⟨o,hk' b o e ho,h3⟩
  refine h1 j af aH v d _ hM hd bl (I3.pinned (hl:=[]) pk (λ_ h=>nomatch h)) (hr.elim (λh=>h _ _) λh=>I3.frm.held (v,d) (L.held _ h):ag h' (av c aH) v d) I3 (aW (L.ex _ _ jd) λo ho=>⟨o,ho,L.k _ _ _ jd ho⟩) λaF jc s4 I6 hM'=>aJ (ds.length+1 - (j+1)) (by lia) ⟨j+1,aF,jc,rfl,bl,hM',I6.fS I3.bs.pins I3.ok.pv,L.w.frame _ _ _ jd λb hb o e=>mM I6.bs hb e,λb hb au=>?_⟩
  refine bB (pk b hb) λh1 h2 ar=>ah ar λo ho h3=>dQ h1 (λx e=>?_) ⟨o,mM I6.bs hb ho,h3⟩
  have e2:(if b∈fp then h'.get? b else c.pin b)=none:=I6.frm.pO x b e
  replace e2:=ho▸(if_pos hb)▸e2;exact sN e2
 ·have du:j=ds.length:=by exact Nat.le_antisymm ‹_› (Nat.not_lt.mp ‹_›)
  subst du
  refine iw (L.w.done s _ _ dj λh' tk hk hz=>?_)
  exact h2 af aH _ hM (I'.chg (λb o hb e=>hk b o (by simpa using hb) e) hz.1 L.ge L.D L.pin noit hz.2)
theorem sR{A:Around}{i:Addr}{ds:List D}{fp:List Addr}{hl:List (Value×D)}{P:Nat->Value->Prop}{St:Nat->Heap->Prop}(L:o6 c A i ds fp hl P St){M:Nat->Ctx->Ow->Prop}{k:Nat}{s:Shared}(hs:ia c aa i ds fp St M k s)
  {Q:Option Value->Shared->Prop} {E:Value->Shared->Prop}
  (h1:∀j af aH v d s3,M j af aH->ds[j]? =some d->j < ds.length->Inv (pinAt c s3.heap fp []) aa af aH s3->ag s3.heap (av c aH) v d->Inv c aa af aH s3->
   (∀aF jc s4,Inv (pinAt c s3.heap fp []) aa aF jc s4->M (j+1) aF jc->∃m,m < k/\ia c aa i ds fp St M m s4)->Q (some v) s3)
  (h2:∀af aH s3,M ds.length af aH->Inv c aa af aH s3->Q none s3):wpAny (model pg c.w) A (pyNext (.ref i)) Q E s:=
 wl L hs (λj af aH v d s3 hM hd bl Ip rv I3 _ back=>h1 j af aH v d s3 hM hd bl Ip rv I3 back) h2
noncomputable def n0(c:Cx)(n:Nat)(aa:Env)(Z:Ctx)(ifs:List Expr)(b:Bool):Prop:=
 ∀(A:Around) (s:Shared) (Q:Bool->Shared->Prop) (E:Value->Shared->Prop) (ow:Ow),bh n A->Inv c aa Z ow s->(∀s',Step c s s'->Q b s')->
  wpAny (model pg c.w) A (forIn ifs true λc r=>if r=true then do let ok <- isTrue c aa (eval c aa);pure (ForInStep.yield ok)else pure (ForInStep.yield r)) Q E s
theorem tX:n0 c n aa Z [] true:=λA s Q E ow rm I h=>wpAny_tests_nil (h s (.refl _ _))
theorem tW{t:Expr}{b:Bool}(h1:Cd c n aa Z t b):n0 c n aa Z [t] b:=λA s Q E ow rm I h=>wpAny_tests_one (h1 A s Q E ow rm I h)
noncomputable def CM{α:Type}(D:Addr)(an:List (String×Mine.D))(xs:List α)(aB:List α->List Mine.D):Nat->Ctx->Ow->Prop:=λj af aH=>find af "%acc"=some (.own (aB (xs.take j)))/\(∀p∈an,find af p.1=some (.d p.2))/\aH "%acc"=some D
theorem E5{s1 s':Shared}{bx:Env}{af:Ctx}{ow aH:Ow}{h:Heap}{hl:List (Value×D)}{ds:List D}{a:Addr}(I:Inv c aa Z ow s1)(I':Inv (pinAt (inner c s1.heap s1.toks ow) h [] hl) bx af aH s')(ha:find af "%acc"=some (.own ds))(ea:aH "%acc"=some a)
  {Q:Value->Shared->Prop} (q:∀v s2,bL c ow s2.heap v (.d (.list ds))->Step c s1 s2->Q v s2):∃m,s'.heap.Ns bx.locals m/\∀h',Heap.SameBut bx.locals s'.heap h'->Q (.ref a) {s' with heap:=h'}:=by
 refine ah (id I'.frm.ns) λm hm _=>aJ m hm (λh' hs=>?_)
 refine cw (lK I' ha) λa' vs e1 hl rs=>?_
 replace e1:=ea▸e1;obtain rfl:=Option.some.inj e1
 have b':=oi I'.ok I'.bs hs I'.frm.loc I'.frm.locD I'.frm.pL (λo e=>qr hm e) s'.toks
 have nq:∀o xs k,s'.heap.get? bx.locals=some o->o.data≠.seq xs k:=λo xs k e=>mS hm e
 refine q _ _ (.list (λh=>?_) (jT hs (lB hl nq) hl) (rs.mono (lq hs (λb hb h=>hb (.inl h)) λ_=>nq))) ⟨b'.kp,λ_=>b'.j,b'.os.trans I.bs.os.symm,λ_=>b'.gens,b'.tk⟩
 exact absurd (uP I h) (Nat.not_lt.mpr ((I'.frm.onew _ _ ea).1))
noncomputable def gN(c:Cx)(n:Nat)(sc:Scope)(an:List (String×D))(elt:Expr)(gens:List Comprehension)(pos:Pos)(ds aB:List D):Prop:=
 ∀(A:Around) (c1:Cx) (cenv:Env) (D it:Addr) (fp:List Addr) (hl:List (Value×Mine.D)) (P:Nat->Value->Prop) (St:Nat->Heap->Prop) (s:Shared) (R:Result->Shared->Prop) (Γ0:Ctx) (ow0:Ow),
  bh n A->dN c c1->b9 sc cenv->(∀x,sc.names.lookup (Str.ofString x)=some .local∨sc.names.lookup (Str.ofString x)=some .cell->cr c1 cenv x)->o6 c1 A it ds fp hl P St->
  Inv c1 cenv Γ0 ow0 s->find Γ0 "%acc"=some (.own [])->(∀p∈an,find Γ0 p.1=some (.d p.2))->ow0 "%acc"=some D->St 0 s.heap->(∀b∈fp,b≠it->kl c1 ow0 s b)->
  (∀af aH s3,Inv c1 cenv af aH s3->find af "%acc"=some (.own aB)->aH "%acc"=some D->R (.ok .next) s3)->
  codeAny (model pg c.w) A (.compLoop (.ListComp elt gens sc pos) 0 (.ref it) (.ref D) cenv) R s
theorem f7.off{sc0 sc:Scope}{an:List (String×D)}(K:f7 sc0 sc Z an){x:String}(hx:sc.names.lookup (Str.ofString x)=some .local∨sc.names.lookup (Str.ofString x)=some .cell):∀p∈an,p.1≠x:=λp hp e=>by
 have h3:=mH K.nd (K.at_ p hp).2.2.1
 replace h3:=e▸h3
 rcases hx with hx | hx<;>replace h3:=hx▸h3<;>cases h3
theorem sub_one{af:Ctx}{an:List (String×D)}{x:String}{d:D}(m2:∀p∈an,find af p.1=some (.d p.2)):∀y l,find ((x,.d d)::b6 an) y=some l->find (upd af x (.d d)) y=some l:=λy l h=>by
 rw[ai]
 have h':(if x=y then some (LV.d d)else find (b6 an) y)=some l:=h
 split at h'
 ·rename_i e;rw[if_pos e];exact h'
 ·rename_i e
  rw[if_neg e]
  exact ah (tb h') λd' ck am=>ab am<|m2 _ ck
theorem qd{α:Type}{sc0 sc:Scope}{elt iter:Expr}{x:String}{px pos:Pos}{ifs:List Expr}{an:List (String×D)}(xs:List α)(aY:α->D)(keep:α->Bool)(out:α->D)
  (K:f7 sc0 sc Z an) (hz:xs.length<=100000)
  (hx:sc.names.lookup (Str.ofString x)=some .local∨sc.names.lookup (Str.ofString x)=some .cell) (hxa:x≠"%acc")
  (body:∀c' bx a,dN c c'->b9 sc bx->a∈xs->n0 c' n bx ((x,.d (aY a))::b6 an) ifs (keep a)/\(keep a=true->Ev c' n bx ((x,.d (aY a))::b6 an) elt (.d (out a)))):
  gN c n sc an elt [⟨.Name (Str.ofString x) px,iter,ifs,0⟩] pos (xs.map aY) ((xs.filter keep).map out):=by
 intro A c1 cenv D it fp hl P St s4 R Γ0 ow0 rm lk bV place L I0 f0 fc0 eo f8 hpk q
 have s0:ia c1 cenv it (xs.map aY) fp St (CM D an xs λl=>(l.filter keep).map out) ((xs.map aY).length+1) s4:=⟨0,Γ0,ow0,rfl,Nat.zero_le _,⟨f0,fc0,eo⟩,I0,f8,hpk⟩
 refine rB lk.w<|codeAny_compLoop_tests (ia c1 cenv it (xs.map aY) fp St (CM D an xs λl=>(l.filter keep).map out)) (λk s hs=>?_) _ s0
 refine sR L hs (λj af aH v d s3 hM hd bl Ip rv I3 back=>?_) λaf aH s3 hM I3=>?_
 ·refine bB hM λm1 m2 m3=>?_
  have hj:j < xs.length:=by simpa using bl
  obtain⟨a,ha,rfl⟩:∃a,xs[j]? =some a/\d=aY a:=by
   rw[List.getElem?_map,List.getElem?_eq_getElem hj]at hd
   exact aJ _ (List.getElem?_eq_getElem hj) ((Option.some.inj hd).symm)
  have eJ:a∈xs:=List.mem_of_getElem? ha
  refine wpAny_assign_Name (fK (c:=pinAt c1 s3.heap fp []) Ip (place x hx) rv λs5 I5=>?_)
  obtain⟨t1,t2⟩:=body (pinAt c1 s3.heap fp []) cenv a ⟨lk.w,lk.V,lk.J,lk.D,lk.os,lk.tz⟩ bV eJ
  have tk1:xs.take (j+1)=xs.take j++[a]:=by
   refine ab List.take_add_one<|ab ha ?_;rfl
  refine t1 A s5 _ _ aH rm (I5.sub (sub_one m2)) λs6 st6=>?_
  have I6:=I5.step st6
  have facc:find (upd af x (.d (aY a))) "%acc"=some (.own (((xs.take j).filter keep).map out)):=by rw[ai,if_neg hxa];exact m1
  have fcap:∀p∈an,find (upd af x (.d (aY a))) p.1=some (.d p.2):=λp hp=>by rw[ai,if_neg (λe=>(K.off hx) p hp e.symm)];exact m2 p hp
  cases hkp:keep a with
  | false=>
   refine back _ aH s6 I6 ⟨?_,fcap,m3⟩
   refine ab facc<|ab tk1 ?_
   dsimp only
   rw[List.filter_append,List.filter_cons,hkp]
   simp
  | true=>
   refine(t2 hkp).run A s6 _ _ aH rm (I6.sub (sub_one m2)) λv7 s7 r7 st7=>pY (c:=pinAt c1 s3.heap fp []) (I6.step st7) facc m3 r7 (by
    rw[List.length_map]
    have h1:=List.length_filter_le keep (xs.take j)
    have h2:(xs.take j).length<=xs.length:=by exact ab List.length_take<|Nat.min_le_right _ _
    lia) λs8 I8=>?_
   refine back _ aH s8 I8 ⟨?_,λp hp=>?_,m3⟩
   ·rw[ai,if_pos rfl,tk1]
    dsimp only
    rw[List.filter_append,List.filter_cons,hkp]
    simp
   ·rw[ai,if_neg (λe=>(K.at_ p hp).2.1 e.symm)];exact fcap p hp
 ·refine bB hM λm1 m2 m3=>?_
  rw[List.length_map,List.take_length]at m1
  exact q af aH s3 I3 m1 m3
theorem xz{sc0 sc:Scope}{elt target iter:Expr}{ifs:List Expr}{ao:List Comprehension}{pos ipos:Pos}{an:List (String×D)}{ds aB:List D}{use:Option (Value->Sem Unit)}
  (ce:b9 sc0 aa) (K:f7 sc0 sc Z an) (ed:It c n aa Z iter ds) (run:gN c n sc an elt (⟨target,iter,ifs,0⟩::ao) pos ds aB)
  (jn:∀v,foldedSetIterable iter aa v=pure v) {A:Around} {s:Shared} {Q:Value->Shared->Prop} {E:Value->Shared->Prop} {ow:Ow} (rm:bh n A) (I:Inv c aa Z ow s)
  (q:∀a C s1 s',Step c s s1->Inv c aa Z ow s1->s1.heap.objs.size<=C->(∀Q':Value->Shared->Prop,(∀v s2,bL c ow s2.heap v (.d (.list aB))->Step c s1 s2->Q' v s2)->∃m,s'.heap.Ns C m/\∀h',Heap.SameBut C s'.heap h'->Q' (.ref a) {s' with heap:=h'})->
   compPost (model pg c.w) A E use Q (.ref a) C (.ok .next) s'):
  wpAny (model pg c.w) A (comprehension (.ListComp elt (⟨target,iter,ifs,0⟩::ao) sc pos) sc aa ipos (newList []) false (eval iter aa) use) Q E s:=by
 have hclos:closureFor sc aa=pure (gm aa.cells sc.names []):=By λy hy hk=>by
  refine ah (K.all y hy hk) λp hp e=>cR (K.cell ce I hp) λcl v e1 _=>rB e<|ab e1 ?_;rfl
 have hnl:∀y∈sc.names,y.2=.local->sc.names.lookup y.1=some .local:=λy hy hk=>mH K.nd (by exact rB hk<|hy)
 refine wpAny_comprehension_free rfl jn hclos K.kind hnl (ed A s _ E ow rm I λit s1 s2 al X=>?_)
 have I1:=I.step al
 refine DC I1 X.step ce K λs4 bV I4 place keep4 cenv hce hloc=>ab hce<|jQ X.w λfp hl Pv St W f8 hfp ar=>jh ar λhK hex hheld hP=>?_
 let c0:=inner c s1.heap s1.toks ow
 let c1:=pinAt c0 s4.heap [] hl
 have mono4:∀{v d},ag s2.heap (av c ow) v d->ag s4.heap (av c0 (k8 s2.heap.objs.size)) v d:=λr=>r.mono λa o xs k e hd ho=>⟨keep4 a o e,by
  rintro(q | ⟨z,q⟩)
  ·exact ho q
  ·unfold k8 at q
   split at q
   ·obtain rfl:=Option.some.inj q;exact Nat.lt_irrefl _ (Heap.lt_size e)
   ·exact nS q⟩
 have base:Inv c1 (fV sc aa (s2.heap.objs.size+1)) (("%acc",.own [])::b6 an) (k8 s2.heap.objs.size) s4:=I4.pinned (λ_ h=>nomatch h) λp hp=>mono4 (hheld p hp)
 have L:o6 c1 A it ds fp hl Pv St:=⟨W,hK,hex,hP,X.new,gr I1.ok I1.bs X.new,by refine(?_:(if it∈([]:List Addr)then s4.heap.get? it else none)=none);exact if_neg (of_decide_eq_true rfl),λp hp=>List.mem_append_left _ hp⟩
 have loop:codeAny (model pg c.w) A (.compLoop (.ListComp elt (⟨target,iter,ifs,0⟩::ao) sc pos) 0 (.ref it) (.ref s2.heap.objs.size) (fV sc aa (s2.heap.objs.size+1)))
   (compPost (model pg c.w) A E use Q (.ref s2.heap.objs.size) cenv.locals) s4:=by
  refine run A c1 (fV sc aa (s2.heap.objs.size+1)) s2.heap.objs.size it fp hl Pv St s4 _ _ _ rm ⟨rfl,rfl,rfl,rfl,rfl,rfl⟩ bV place L base rfl (λp hp=>?_) rfl (W.frame _ _ _ f8 λb hb o e=>keep4 b o e) (λb hb au=>?_) λaf aH s3 I3 m1 m3=>?_
  ·refine(?_:(if "%acc"=p.1 then _ else _)=_)
   exact ab (if_neg (λe=>(K.at_ p hp).2.1 e.symm))<|CL K.cnd hp
  ·refine bB (hfp b hb au) λh1 h2 ar=>ah ar λo ho h3=>dQ h1 (λz e=>?_) ⟨o,keep4 _ _ ho,h3⟩
   unfold k8 at e
   split at e
   ·obtain rfl:=Option.some.inj e;exact Nat.lt_irrefl _ (Heap.lt_size ho)
   ·exact nS e
  ·refine q _ _ s1 s3 al I1 (by refine ab hloc ?_;have:=X.step.kp.1;exact Nat.le_succ_of_le ‹_›) λQ' q'=>?_
   exact ab hloc<|E5 I1 I3 m1 m3 λv s9 r9 st9=>q' v s9 r9 st9
 exact codeAny_compStart_list loop (W.self 0 _ _ _ (W.frame _ _ _ f8 λb hb o e=>keep4 b o e) loop)
theorem ub{sc0 sc:Scope}{elt target iter:Expr}{ifs:List Expr}{ao:List Comprehension}{pos:Pos}{an:List (String×D)}{ds aB:List D}
  (ce:b9 sc0 aa) (K:f7 sc0 sc Z an) (ed:It c n aa Z iter ds) (run:gN c n sc an elt (⟨target,iter,ifs,0⟩::ao) pos ds aB)
  (jn:∀v,foldedSetIterable iter aa v=pure v:=by intro _;rfl):Ev c n aa Z (.ListComp elt (⟨target,iter,ifs,0⟩::ao) sc pos) (.d (.list aB)):=by
 refine⟨?_⟩
 intro A s Q E ow rm I q
 exact xz ce K ed run jn rm I λa C s1 s' al I1 hC hq=>hq Q λv s2 r st=>q v s2 r (al.trans st)
theorem Inv.My{ow:Ow}{s:Shared}(I:Inv c aa Z ow s){b:Addr}(hV:¬c.V b)(hL:b≠aa.locals)(hC:∀(x:Str) cl,aa.cells.lookup x=some cl->c.h₀.objs.size<=cl->cl≠b)(hO:∀x,ow x≠some b):Inv (pinAt c s.heap [b] []) aa Z ow s:=by
 have du:∀a,(pinAt c s.heap [b] []).pin a=if a=b then s.heap.get? a else c.pin a:=λa=>by
  show(if a∈[b]then s.heap.get? a else c.pin a)=_
  by_cases h:a=b
  ·rw[if_pos h,if_pos (by simp[h])]
  ·rw[if_neg h,if_neg (by simp[h])]
 refine ah I.frm.ns λm hm hv=>⟨⟨I.ok.vd,I.ok.vsa,I.ok.vseq,I.ok.vco,I.ok.jin,I.ok.jk,I.ok.tab,I.ok.tabJ,I.ok.tabK,I.ok.sn,λa o e=>?_,I.ok.tp⟩,I.oin,⟨I.bs.kp,λa o e=>?_,I.bs.sta,I.bs.j,I.bs.os,I.bs.gens,I.bs.tk⟩,
  I.frm.kind,I.frm.glob,I.frm.bins,I.frm.loc,I.frm.locD,⟨m,hm,λx l e=>?_⟩,I.frm.cnew,I.frm.cD,I.frm.cinj,I.frm.onew,I.frm.oinj,?_,λx cl h1 h2=>?_,λx a e=>?_,I.frm.held⟩
 ·rw[du]at e
  split at e
  ·rename_i h;exact ab h hV
  ·exact I.ok.pv a o e
 ·rw[du]at e
  split at e
  ·exact e
  ·exact I.bs.pins a o e
 ·exact ah (hv x l e) λv h1 h2=>aJ v h1 (by cases l<;>exact h2)
 ·rw[du,if_neg (Ne.symm hL)];exact I.frm.pL
 ·rw[du,if_neg (hC x cl h1 h2)];exact I.frm.pC x cl h1 h2
 ·rw[du,if_neg (λq:a=b=>hO x (by exact rB q<|e))];exact I.frm.pO x a e
theorem wY{y:String}{py pos':Pos}{sc0 sc:Scope}{elt target iter:Expr}{ifs:List Expr}{ao:List Comprehension}{pos:Pos}{an:List (String×D)}{ds aB:List D}{P:az->Prop}
  (ce:b9 sc0 aa) (K:f7 sc0 sc Z an) (ed:It c n aa Z iter ds) (run:gN c n sc an elt (⟨target,iter,ifs,0⟩::ao) pos ds aB) (hy:cr c aa y)
  (hsw:swapsWith (.ListComp elt (⟨target,iter,ifs,0⟩::ao) sc pos) (some (.Name (Str.ofString y) py)) pos'.line aa=pure true)
  (h2:P (.next (upd Z y (.d (.list aB)))))
  (jn:∀v,foldedSetIterable iter aa v=pure v:=by intro _;rfl):bY c n aa Z (.Assign [.Name (Str.ofString y) py] (.ListComp elt (⟨target,iter,ifs,0⟩::ao) sc pos) pos') P:=by
 refine⟨?_⟩
 intro A s Q E ow rm I q
 refine ab (exec_Assign_Name_used _ _ _ _ hsw)<|wpAny_bind (wpAny_standAt (wpAny_bind ?_))
 refine wpAny_bind (wpAny_mono (Q:=λ_ s'=>Q .next s') (xz (use:=some (assign (.Name (Str.ofString y) py) aa)) ce K ed run jn rm I λa C s1 s' al I1 hC hq=>?_) (λ_ s' hq=>wpAny_pure (wpAny_pure hq)) λ_ _ e=>e)
 refine ah (hq (λv s2=>bL c ow s2.heap v (.d (.list aB))/\Step c s1 s2) λv s2 r st=>⟨r,st⟩) λm hm hf=>bR (hf s'.heap (.refl ..)) λr st=>?_
 have I':Inv c aa Z ow s':=I1.step st
 refine ah (id I1.frm.ns) λm1 hm1 _=>?_
 have nL:aa.locals≠C:=by
  exact fz hm1 λo _ _ ho _=>Nat.ne_of_lt (Nat.lt_of_lt_of_le (Heap.lt_size ho) hC)
 have nCl:∀(x:Str) cl,aa.cells.lookup x=some cl->c.h₀.objs.size<=cl->cl≠C:=λx cl h1 h2=>by
  exact cR (I1.frm.cnew x cl h1 h2) λv o ho _=>Nat.ne_of_lt (Nat.lt_of_lt_of_le (Heap.lt_size ho) hC)
 have nO:∀x,ow x≠some C:=λx e=>by
  refine bB (I1.frm.onew x C e) λ_ _ ar=>cY ar λxs j ho=>?_
  exact Nat.not_lt.mpr hC (Heap.lt_size ho)
 have hD:¬c.D C:=gr I1.ok I1.bs hC
 refine wpAny_assign_Name (fK (c:=pinAt c s'.heap [C] []) (I'.My (λh=>hD (I.ok.vd _ h)) (Ne.symm nL) nCl nO) hy r λs2 I2=>?_)
 have hm2:s2.heap.Ns C m:=lX hm λo e=>mM I2.bs (by simp) e
 refine aJ m hm2 (λh' hs=>q _ _ (.next _) h2 ⟨ow,?_⟩)
 refine(I2.fS I'.bs.pins I'.ok.pv:Inv c aa (upd Z y (.d (.list aB))) ow s2).u7 (tk:=s2.toks) (λb o hb e=>(hs.2 b hb).trans e) (Nat.le_of_eq hs.1.symm) (Nat.le_trans I1.bs.size hC) hD (I1.bs.mQ hC) (λo e=>⟨λxs k=>mS hm2 e,λa=>tE hm2 e,qr hm2 e⟩) nL λ{cl v} h=>(mJ hm2 h)
end
end
section
section
variable {c:Cx} {n:Nat} {aa:Env} {Z:Ctx}
theorem od{o:Obj}{vs:Array Value}(hd:o.data=.fields vs)(hc:l5 o.cls=true)(h1:∀q t,vs[1]? ≠some (.str q t)):kC o:=
 ⟨(λ_ _ e=>by replace e:=hd▸e;cases e),(λ_ e=>by replace e:=hd▸e;cases e),(λ_ _ e=>by replace e:=hd▸e;cases e),(λa e=>by rw[e]at hc;exact absurd hc (by refine(?_:¬l5 (.type "builtin_function_or_method")=true);exact of_decide_eq_true rfl)),(λob=>fz ob λcu q t e1 e2=>by replace e1:=hd▸e1;cases e1;exact h1 q t e2),hc⟩
theorem IK{vs:List Value}{ds:List D}{k:Nat}{v:Value}{d:D}(h1:vs[k]? =some v)(h2:ds[k]? =some d):(v,d)∈vs.zip ds:=by
 have:(vs.zip ds)[k]? =some (v,d):=by rw[List.getElem?_zip_eq_some];exact⟨h1,h2⟩
 exact List.mem_of_getElem? this
theorem FS{h:Heap}{O:Addr->Prop}{vs:List Value}{ds:List D}(r:aq h O vs ds):∀p∈vs.zip ds,ag h O p.1 p.2:=by
 induction ds generalizing vs with
 | nil=>exact aq.bO r λp hp=>nomatch hp
 | cons d ds ih=>exact aq.bn r λv cu a r p hp=>(List.mem_cons.mp hp).elim (λe=>e▸a) (ih r p)
theorem tI(ds:List D):rY c n (.d (.list ds)) ds:=by
 intro aa Z A s Q E ow v rm I r h
 refine ag.listE r λa vs ho la rs=>?_
 have hl:=rs.length
 have au:a≠s.heap.objs.size:=λe=>by exact aW la λk q=>absurd (Heap.lt_size q) (by exact ab e<|Nat.lt_irrefl _)
 refine wpAny_pyIter_list la.isList (h _ _ ?_)
 have ji:PL (s.heap.push {cls:=.type "list_iterator",data:=.fields #[.ref a,.int 0 0]}) a vs.toArray:=la.push _
 have st:Step c s {s with heap:=s.heap.push {cls:=.type "list_iterator",data:=.fields #[.ref a,.int 0 0]}}:=.push I.ok _ s.toks
 have W:=Walks.list (prog:=pg) (w:=c.w) rm.h s.heap.objs.size a au vs.toArray
 have cj:vs.toArray.size=ds.length:=by refine ab List.size_toArray ?_;rw[hl]
 replace W:=cj▸W
 refine⟨st,Nat.le_refl _,by rw[Heap.size_push];exact Nat.lt_succ_self _,_,vs.zip ds,_,_,W,⟨?_,ji.isList⟩,λb hb au=>?_,λk h o hs e=>?_,λk h hs=>?_,FS (rs.step I.ok I.bs st),λk v hv=>?_⟩
 ·exact nN _ (Heap.get?_push_size _ rfl) rfl rfl
 ·rcases List.mem_cons.mp hb with e | hb
  ·exact absurd e au
  ·rcases List.mem_cons.mp hb with e | hb
   ·refine ab e<|aW ji λk q=>dQ (λhv=>?_) (λx e=>ho (.inr ⟨x,e⟩)) ⟨_,q,(λ_ e=>nomatch e),(λ_ _ e=>nomatch e)⟩
    exact aW la λk' q'=>I.ok.vseq _ _ _ _ _ I.bs.j hv q' rfl
   ·exact nomatch hb
 ·obtain⟨⟨o',e',hc,hd⟩,_⟩:=hs
  replace e':=e▸e';exact iK e'<|od hd (by refine ab hc ?_;rfl) (λq t e=>by cases e)
 ·refine bR hs λaw _=>ah aw λo' e' _=>?_
  exact⟨o',e'⟩
 ·have hv':vs[k]? =some v:=by simpa using hv
  have hk:k < ds.length:=by
   refine rB hl ?_
   by_cases q:k < vs.length
   ·exact q
   ·replace hv':=Eq.trans (Eq.symm (List.getElem?_eq_none (Nat.not_lt.mp ‹_›))) hv';exact nS hv'
  exact aJ _ (List.getElem?_eq_getElem hk) (.inr (IK hv' (List.getElem?_eq_getElem hk)))
theorem EJ(l:List UInt8):rY c n (.d (.bytes l.toArray)) (l.map λb=>.int b.toNat):=by
 intro aa Z A s Q E ow v rm I r h
 refine ag.j' r λt=>KBw.pyIter_bytes (h _ _ ?_)
 have W:Walks pg c.w A s.heap.objs.size [s.heap.objs.size] [s.heap.objs.size] (l.map λb=>D.int b.toNat).length (λi v=>∃x t,l[i]? =some x/\v=.int (x.toNat:Int) t) (λi h=>KBw.IsBytesIter h s.heap.objs.size l.toArray t i):=by
  refine⟨λb hb=>hb,λi h h' st hk=>?_,λi s' Q E hi st hQ=>?_,λs' Q E st hQ=>?_,λi s' Q E st hQ=>KBw.pyIter_self st hQ⟩
  ·exact ah st λo e r=>aJ o (hk _ (by simp) o e) r
  ·rw[List.length_map]at hi
   exact KBw.next_item st (c:=l[i]) (by simp[hi]) λh' ed hs=>hQ _ h' _ ⟨l[i],_,List.getElem?_eq_getElem hi,rfl⟩ ed λb o hb e=>hs.extBut b o (λh=>hb (by simp[h])) e
  ·skip
   exact KBw.next_end rm.h st (by simp) λh' he=>hQ h' _ λb o hb e=>he b o (λh=>hb (by simp[h])) e
 refine⟨.push I.ok _ s.toks,Nat.le_refl _,by rw[Heap.size_push];exact Nat.lt_succ_self _,_,[],_,_,W,⟨_,Heap.get?_push_size _ rfl,rfl,rfl⟩,λb hb au=>?_,λk h o hs e=>?_,λk h hs=>?_,λp hp=>(nomatch hp),λk v hv=>?_⟩
 ·rcases List.mem_cons.mp hb with e | hb
  ·exact absurd e au
  ·exact nomatch hb
 ·refine gV hs λo' e' hc hd=>?_
  replace e':=e▸e';exact iK e'<|od hd (by refine ab hc ?_;rfl) (λq t e=>by cases e)
 ·exact ah hs λo' e' _=>⟨o',e'⟩
 ·exact cR hv λx t hx dH=>ab dH<|aJ (.int x.toNat) (by refine ab List.getElem?_map<|ab hx ?_;rfl) (.inl λh O=>.int _ _)
theorem EK{h:Heap}{i:Addr}{x l st:Int}{o:Obj}(hs:IsRangeIter h i x l st)(e:h.get? i=some o):kC o:=by
 have:h.get? i=some _:=hs
 replace this:=e▸this;exact iK this<|od rfl (show l5 (Value.type "range_iterator")=true by rfl) (λq t e=>by cases e)
theorem vI{A:Around}{s:Shared}{ow:Ow}{r:Addr}{a b st:Int}{t u v:Tok}{k:Nat}{Q:Value->Shared->Prop}{E:Value->Shared->Prop}(rm:bh n A)(I:Inv c aa Z ow s)(hr:IsRange s.heap r a b st t u v)(hsm:Builtin.Range.small a b st=true)(hn:Builtin.Range.rangeSize a b st=(k:Int))
  (h:∀i s',po c A ow s s' i ((List.range k).map λj=>.int (a+(j:Nat) * st))->Q (.ref i) s'):wpAny (model pg c.w) A (pyIter (.ref r)) Q E s:=by
 refine wpAny_pyIter_range hr hsm (h _ _ ?_)
 refine⟨.push I.ok _ s.toks,Nat.le_refl _,by rw[Heap.size_push];exact Nat.lt_succ_self _,[s.heap.objs.size],[],λi v=>i < k/\∃t,v=.int (a+i * st) t,λi h=>IsRangeIter h s.heap.objs.size (a+(i:Nat) * st) ((k:Int) - (i:Nat)) st,?_,?_,λb hb au=>?_,λk h o hs e=>EK hs e,λk h hs=>⟨_,hs⟩,λp hp=>(nomatch hp),λj v hv=>?_⟩
 ·rw[List.length_map,List.length_range]
  exact(Walks.range (prog:=pg) (w:=c.w) rm.h s.heap.objs.size a st k).bound
 ·skip
  refine ab hn ?_
  simpa using Heap.get?_push_size _ rfl
 ·rcases List.mem_cons.mp hb with e | hb
  ·exact absurd e au
  ·exact nomatch hb
 ·obtain⟨hj,t,rfl⟩:=hv
  exact aJ _ (by refine ab List.getElem?_map<|ab (List.getElem?_range hj) ?_;rfl) (.inl λh O=>.int _ _)
theorem wG:dr "range" (.type "range"):=sI (by decide+kernel) (by decide+kernel) (by kernel_rfl)
theorem xn{e:Expr}{p pos:Pos}{k:Nat}(hk:aa.kindOf "range"=some .globalImplicit)(h1:Ev c n aa Z e (.d (.int (k:Int))))(hz:k<=1000000)(hs:starEach [e] aa=[(false,eval e aa)]:=by rfl):It c n aa Z (.Call (.Name "range" p) [e] [] pos) ((List.range k).map λj:Nat=>.int (j:Int)):=by
 intro A s Q E ow rm I h
 refine wpAny_Call_NameR (iU I wG hk (by decide+kernel) ?_)
 refine ab hs<|PyProof.Rows.callWith_type rfl (Calls.evalArgs_plain (Calls.spliced_cons (h1.run A s _ E ow rm I λv s1 r al=>Calls.spliced_nil ?_)))
 refine ag.bf r λt=>call_range_1 ?_
 have aG:Step c s1 _:=.push (s:=s1) (I.ok) {cls:=.type "range",data:=.fields #[.int 0 s1.toks,.int (k:Int) t,.int 1 (s1.toks+1)]} (s1.toks+1+1)
 refine vI rm ((I.step al).step aG) (IsRange.new ..) (small_one (by decide) (by decide) (by lia) (by lia)) (k:=k) (by rw[rangeSize_one];refine bq (λ_=>?_) λ_=>?_<;>lia) λi s' X=>h i _ s' (al.trans aG) ?_
 have:(λj:Nat=>D.int (0+(j:Int) * 1))=λj:Nat=>D.int (j:Int):=by funext j;congr 1;lia
 rw[this]at X
 exact X
end
end
section
theorem xq{h:Heap}{O:Addr->Prop}{vs:List Value}{ns:List Int}(x:aq h O vs (ns.map .int)):∃ps:List (Int×Tok),vs=ps.map (λp=>.int p.1 p.2)/\ps.map (·.1)=ns:=by
 induction ns generalizing vs with
 | nil=>exact aq.bO x ⟨[],rfl,rfl⟩
 | cons n ns ih=>exact aq.bn x λv vs a r=>ag.bf a λt=>ah (ih r) λps h1 h2=>⟨(n,t)::ps,congrArg (_::·) h1,congrArg (n::·) h2⟩
theorem Gx{h:Heap}{O:Addr->Prop}{vs:List Value}{ns:List Int}(x:aq h O vs (ns.map .int)):IntsAre vs ns:=by
 induction ns generalizing vs with
 | nil=>exact aq.bO x .nil
 | cons n ns ih=>exact aq.bn x λv vs a r=>ag.bf a λt=>.cons n t (ih r)
theorem DZ{h:Heap}{O:Addr->Prop}{vs:List Value}{xs:List (List Nat)}(x:aq h O vs (xs.map sd)):∃ps:List (Str×Tok),vs=strValues ps/\ps.map (·.1)=xs.map S:=by
 induction xs generalizing vs with
 | nil=>exact aq.bO x ⟨[],rfl,rfl⟩
 | cons n ns ih=>exact aq.bn x λv vs a r=>ag.bw a λt=>ah (ih r) λps h1 h2=>⟨(S n,t)::ps,congrArg (_::·) h1,congrArg (S n::·) h2⟩
section
variable {c:Cx} {n:Nat} {aa:Env} {Z:Ctx}
noncomputable def dm(c:Cx)(n:Nat)(f:Value)(ls:List LV)(r:LV):Prop:=
 ∀(aa:Env) (Z:Ctx) (A:Around) (s:Shared) (Q:Value->Shared->Prop) (E:Value->Shared->Prop) (ow:Ow) (vs:List Value),bh n A->Inv c aa Z ow s->aT c ow s.heap vs ls->
  (∀v s',bL c ow s'.heap v r->Step c s s'->Q v s')->wpAny (model pg c.w) A (call f vs) Q E s
theorem ot{x:Str}{p pos:Pos}{id:String}{args:List Expr}{ls:List LV}{r:LV}(g:dr x (.builtin id))(hk:aa.kindOf x=some .globalImplicit)(ha:Arg c n aa Z args pos ls)(h2:dm c n (.builtin id) ls r)
  (hx:(x==("__debug__":Str))=false:=by decide+kernel) (dt:(backTo pos (starEach args aa)).any (·.1)=false:=by rfl):Ev c n aa Z (.Call (.Name x p) args [] pos) r:=
 ⟨λA s Q E ow rm I k=>Call_Name rfl (iU I g hk hx (Calls.callWith_builtin dt (gi dt (ha A s _ E ow rm I λvs s1 rs al=>h2 aa Z A s1 Q E ow vs rm (I.step al) rs λv s2 rv aG=>k v s2 rv (al.trans aG)))))⟩
theorem GT{x:Str}{p pos:Pos}{T:String}{args:List Expr}{ls:List LV}{r:LV}(g:dr x (.type T))(hk:aa.kindOf x=some .globalImplicit)(ha:Arg c n aa Z args pos ls)(h2:dm c n (.type T) ls r)
  (hx:(x==("__debug__":Str))=false:=by decide+kernel) (dt:(backTo pos (starEach args aa)).any (·.1)=false:=by rfl):Ev c n aa Z (.Call (.Name x p) args [] pos) r:=
 ⟨λA s Q E ow rm I k=>Call_Name rfl (iU I g hk hx (PyProof.Rows.callWith_type dt (gi dt (ha A s _ E ow rm I λvs s1 rs al=>h2 aa Z A s1 Q E ow vs rm (I.step al) rs λv s2 rv aG=>k v s2 rv (al.trans aG)))))⟩
theorem gb{x:Str}{v:Value}(e:x∈ku:=by decide+kernel)(hn:x≠"__name__":=by decide+kernel)(hv:bootBuiltins x=some v:=by kernel_rfl):dr x v:=sI e hn hv
theorem oq:dr "len" (.builtin "len"):=gb
theorem GG:dr "sum" (.builtin "sum"):=gb
theorem wH:dr "bytes" (.type "bytes"):=gb
theorem EP:dr "list" (.type "list"):=gb
theorem EO:dr "type" (.type "type"):=gb
theorem Bb:dr "isinstance" (.builtin "isinstance"):=gb
theorem Nn:dr "str" (.type "str"):=gb
theorem CC:dr "object" (.type "object"):=gb
theorem No:dr "int" (.type "int"):=gb
theorem Nj:dr "bool" (.type "bool"):=gb
theorem GH:dr "set" (.type "set"):=gb
theorem so{l:LV}{ds:List D}(hl:dh l ds)(hz:ds.length<=1000000):dm c n (.builtin "len") [l] (.d (.int ds.length)):=by
 intro aa Z A s Q E ow vs rm I rs h
 refine aT.bn rs λ_ _ r ao=>aT.bO ao<|cw (r.eq hl) λa vs am la ra=>ab am ?_
 have e:vs.toArray.size=ds.length:=by refine ab List.size_toArray ?_;rw[ra.length]
 exact len_list la.isList (by refine ab e ?_;lia) (by exact ab e<|h _ _ (.int _ _) (.tok I.ok _))
theorem sG{x:List Nat}(hz:x.length<=1000000):dm c n (.builtin "len") [.d (sd x)] (.d (.int x.length)):=by
 intro aa Z A s Q E ow vs rm I rs h
 refine aT.bn rs λ_ _ r ao=>aT.bO ao<|ag.bw r λt=>?_
 exact P.len_str (by rw[dq];lia) (by exact h _ _ (.int _ _) (.tok I.ok _))
theorem B3{b:Array UInt8}(hz:b.size<=1000000):dm c n (.builtin "len") [.d (.bytes b)] (.d (.int b.size)):=by
 intro aa Z A s Q E ow vs rm I rs h
 refine aT.bn rs λ_ _ r ao=>aT.bO ao<|ag.j' r λt=>?_
 exact PySem.W.len_bytes (Nat.le_trans ‹_› (Nat.le_add_left _ _)) (h _ _ (.int _ _) (.tok I.ok _))
theorem Bv{b:Array UInt8}:dm c n (.type "type") [.d (.bytes b)] (.d (.ty "bytes")):=by
 intro aa Z A s Q E ow vs rm I rs h
 refine aT.bn rs λ_ _ r ao=>aT.bO ao<|ag.j' r λt=>?_
 exact call_type_of (typeIs_bytes _ _ _) rfl (h _ _ (.ty _) (.refl _ _))
theorem B1{b:Bool}:dm c n (.type "type") [.d (.bool b)] (.d (.ty "bool")):=by
 intro aa Z A s Q E ow vs rm I rs h
 refine aT.bn rs λ_ _ r ao=>aT.bO ao<|ag.l9 r ?_
 exact call_type_of (show s.TypeIs (.bool b) "bool" from rfl) rfl (h _ _ (.ty _) (.refl _ _))
theorem Cs{i:Int}:dm c n (.type "type") [.d (.int i)] (.d (.ty "int")):=by
 intro aa Z A s Q E ow vs rm I rs h
 refine aT.bn rs λ_ _ r ao=>aT.bO ao<|ag.bf r λt=>?_
 exact call_type_of (typeIs_int _ _ _) rfl (h _ _ (.ty _) (.refl _ _))
theorem A3{x:List Nat}:dm c n (.builtin "isinstance") [.d (sd x),.d (.ty "str")] (.d (.bool true)):=by
 intro aa Z A s Q E ow vs rm I rs h
 refine aT.bn rs λ_ _ r ao=>aT.bn ao λ_ _ r2 ao=>aT.bO ao<|ag.bw r λt=>?_;exact ag.pr r2<|call_isinstance_yes (typeIs_str _ _ _) (by first | rfl | kernel_rfl) (by kernel_rfl) (h _ _ (.bool _) (.refl _ _))
theorem Gc{l:LV}{ns:List Int}(hl:dh l (ns.map .int))(hr:∀n∈ns,0<=n/\n < 256)(hz:ns.length<=1000000):dm c n (.type "bytes") [l] (.d (.bytes (ns.map λn=>n.toNat.toUInt8).toArray)):=by
 intro aa Z A s Q E ow vs rm I rs h
 refine aT.bn rs λ_ _ r ao=>aT.bO ao<|cw (r.eq hl) λa vs am la ra=>ab am ?_
 have hi:=Gx ra
 refine iw (call_bytes_ints la.isList hi hr (by exact ab hi.length<|ab sizeLine_eq<|Nat.le_trans ‹_› (Nat.le_add_left _ _)) rm.h λh' t k hk cj=>h _ _ (.bytes _ _) (.keep I.ok cj.1 hk rfl rfl cj.2))
theorem Ct{x:List Nat}(hz:x.length<=100000):dm c n (.type "list") [.d (sd x)] (.d (.list (x.map λk=>sd [k]))):=by
 intro aa Z A s Q E ow vs rm I rs h
 refine aT.bn rs λ_ _ r ao=>aT.bO ao<|ag.bw r λt=>iw (call_list_str rm.h (S x) t (λh' tk acc' c' hk hS' hacc cj=>?_) (by exact ab List.size_toArray<|ab sizeLine_eq<|Nat.le_trans ‹_› (Nat.le_add_left _ _)))
 refine h _ _ ?_ (.keep I.ok cj.1 hk rfl rfl cj.2)
 have key:∀(vs:List Value) (xs:List Nat),vs.length=xs.length->(∀(j:Nat) (v:Value),vs[j]? =some v->∃(k:Nat) (u:Tok),xs[j]? =some k/\v=Value.str ⟨#[k]⟩ u)->aq h' (av c ow) vs (xs.map λk=>sd [k]):=by
  intro vs
  induction vs with
  | nil=>intro xs hl _;cases xs with | nil=>exact .nil | cons _ _=>cases hl
  | cons v vs ih=>
   intro xs hl hh
   cases xs with
   | nil=>cases hl
   | cons k ks=>
    refine cR (hh 0 v rfl) λk' u e1 dH=>ab dH<|aC e1 ?_
    exact .cons (.str _ _) (ih ks (by simpa using hl) λj v hj=>hh (j+1) v hj)
 refine .list I.fresh ⟨c',by exact hS'⟩ (key acc'.toList x ?_ λj v hj=>?_)
 ·skip
  exact ab Array.length_toList<|ab hacc.1<|ab List.size_toArray rfl
 ·exact cR (hacc.2 j v (by simpa using hj)) λk u h1 h2=>mB k u (by simpa using h1) h2
theorem Kk{l:LV}{ns:List Int}(hl:dh l (ns.map .int)):dm c n (.builtin "sum") [l] (.d (.int ns.sum)):=by
 intro aa Z A s Q E ow vs rm I rs h
 refine aT.bn rs λ_ _ r ao=>aT.bO ao<|cw (r.eq hl) λa vs am la ra=>ab am<|ah (xq ra) λps bd hp=>?_;subst bd
 have e:(ps.map λp=>Value.int p.1 p.2).toArray=intItems ps.toArray:=by simp[intItems]
 rw[e]at la
 refine iw (sum_intListG rm.h la.isList λh' tk t' hk cj=>h _ _ ?_ (.keep I.ok cj.1 hk rfl rfl cj.2))
 rw[preSum_eq,List.take_of_length_le (by simp)]
 exact ab (show ps.toArray.toList.map (·.1)=ns by exact hp)<| .int _ _
theorem Kl{l:LV}{ns:List Int}{m:Int}(hl:dh l (ns.map .int))(hm:m∈ns)(ie:∀x∈ns,x<=m):dm c n (.builtin "max") [l] (.d (.int m)):=by
 intro aa Z A s Q E ow vs rm I rs h
 refine aT.bn rs λ_ _ r ao=>aT.bO ao<|cw (r.eq hl) λa vs am la ra=>ab am<|ah (xq ra) λps bd hp=>?_;subst bd
 rw[(by simp[intItems]:(ps.map λp=>Value.int p.1 p.2).toArray=intItems ps.toArray)]at la
 have aV:ps.length=ns.length:=by refine rB hp ?_;rw[List.length_map]
 have hpos:0 < ns.length:=List.length_pos_of_mem hm
 have d0:∀j (hj:j < ns.length),numAt ps.toArray j=ns[j]:=λj hj=>by
  have e1:(ps.map (·.1))[j]? =some ns[j]:=by exact ab hp<|List.getElem?_eq_getElem hj
  unfold numAt
  rw[List.getElem?_map]at e1
  refine ab List.getElem?_toArray<|ab e1 ?_;rfl
 refine iw (max_intList rm.h la.isList (by simp;lia) λv h' tk hv hk cj=>h _ _ ?_ (.keep I.ok cj.1 hk rfl rfl cj.2))
 refine aW (intItems_at hv) λt bd=>ab bd ?_
 have hb:=argBest_gt (numAt ps.toArray) (ps.toArray.size - 1)
 rw[show ps.toArray.size - 1=ns.length - 1 by simp[aV]]at hb⊢
 generalize hk:argBest (λi j=>decide (numAt ps.toArray i > numAt ps.toArray j)) (ns.length - 1)=k at hb⊢
 have hk':k < ns.length:=by lia
 have:numAt ps.toArray k=m:=by
  apply Int.le_antisymm
  ·exact ab (d0 k hk')<|ie _ (List.getElem_mem hk')
  ·obtain⟨j,hj,rfl⟩:=List.mem_iff_getElem.mp hm
   exact rB (d0 j hj)<|hb.2 j (by lia)
 exact ab this<| .int _ _
noncomputable def bT(sep:List Nat):List (List Nat)->List Nat
 | []=>[]
 | [x]=>x
 | x::y::r=>x++sep++bT sep (y::r)
theorem wF(sep:List Nat)(xs:List (List Nat)):Txt.join (S sep) (xs.map S)=S (bT sep xs):=by
 show Builtin.Str.glued (S sep) (xs.map S)=_
 have key:∀(r:List (List Nat)) (x:List Nat),(r.map S).foldl (λacc p=>acc++(S sep).cps++p.cps) x.toArray=(bT sep (x::r)).toArray:=by
  intro r
  induction r with
  | nil=>intro x;rfl
  | cons y r ih=>
   intro x
   refine ab List.map_cons<|ab List.foldl_cons<|ab (by simp[S]:x.toArray++(S sep).cps++(S y).cps=(x++sep++y).toArray) ?_;rw[ih]
   congr 1
   cases r with
   | nil=>rfl
   | cons z r=>simp[bT,List.append_assoc]
 cases xs with
 | nil=>rfl
 | cons x r=>
  refine(?_:(⟨(r.map S).foldl (λacc p=>acc++(S sep).cps++p.cps) x.toArray⟩:Str)=_)
  rw[key]
theorem t8{sep:List Nat}{xs:List (List Nat)}(h:(xs.map (·.length)).sum+xs.length * sep.length<=1000000):JoinOk (S sep) (xs.map S)=true:=by
 refine joinOk_of ?_
 rw[dq,List.length_map,List.map_map]
 have:(xs.map (Str.length∘S))=xs.map (·.length):=by
  apply List.map_congr_left;intro x _;exact dq x
 exact ab this<|Nat.le_trans ‹_› (Nat.le_add_left _ _)
theorem qx{o:Expr}{name:Str}{apos pos:Pos}{args:List Expr}{a r:LV}{ls:List LV}{T id:String}(h1:Ev c n aa Z o a)(pa:PlainAttrs T)(sl:Slot T name id)(ty:typeOf (.builtin id)=pure (.type "method_descriptor"))
  (hT:∀(ow:Ow) (s:Shared) v,bL c ow s.heap v a->s.TypeIs v T/\∀b,v=.ref b->∃ob,s.heap.get? b=some ob/\ob.dict=none) (ha:Arg c n aa Z args pos ls) (h2:dm c n (.builtin id) (a::ls) r)
  (hb:attributeBase o name aa (eval o aa)=eval o aa:=by rfl)
  (hp:((((backTo pos (starEach args aa)).all λx=>!x.fst)&&(backToKw pos (keywordEach [] aa)).all λx=>x.fst.isSome)&&decide ((args.length+([]:List Keyword).length+if([]:List Keyword).isEmpty=true then 0 else 1) < 30))=true:=by rfl)
  (hl:(apos.endLine==pos.line)=true:=by rfl) (dt:(backTo pos (starEach args aa)).any (·.1)=false:=by rfl):Ev c n aa Z (.Call (.Attribute o name apos) args [] pos) r:=by
 refine⟨?_⟩
 intro A s Q E ow rm I k
 refine wpAny_Call_method_late hb hp hl rfl (h1.run A s _ E ow rm I λov s1 ro al=>?_)
 refine bR (hT ow s1 ov ro) λt1 t2=>li T id pa sl ty t1 t2 (Calls.callWith_builtin dt (gi dt (ha A s1 _ E ow rm (I.step al) λvs s2 rs aG=>?_)))
 exact h2 aa Z A s2 Q E ow (ov::vs) rm ((I.step al).step aG) (.cons (ro.inv (I.step al) aG) rs) λv s3 rv cI=>k v s3 rv (al.trans (aG.trans cI))
theorem nj{x:List Nat}(ow:Ow)(s:Shared)(v:Value)(r:bL c ow s.heap v (.d (sd x))):s.TypeIs v "str"/\∀b,v=.ref b->∃ob,s.heap.get? b=some ob/\ob.dict=none:=by
 exact ag.bw r λt=>⟨typeIs_str _ _ _,λb e=>nomatch e⟩
theorem GF{x:Array UInt8}(ow:Ow)(s:Shared)(v:Value)(r:bL c ow s.heap v (.d (.bytes x))):s.TypeIs v "bytes"/\∀b,v=.ref b->∃ob,s.heap.get? b=some ob/\ob.dict=none:=by
 exact ag.j' r λt=>⟨typeIs_bytes _ _ _,λb e=>nomatch e⟩
theorem IJ{l:LV}{ds:List D}(hl:dh l ds)(ow:Ow)(s:Shared)(v:Value)(r:bL c ow s.heap v l):s.TypeIs v "list"/\∀b,v=.ref b->∃ob,s.heap.get? b=some ob/\ob.dict=none:=by
 refine cw (r.eq hl) λa vs am dH _=>ab am ?_;obtain⟨k,e⟩:=dH
 exact⟨⟨_,e,rfl⟩,λb q=>by cases q;exact aJ _ e rfl⟩
theorem yL{sep:List Nat}{l:LV}{xs:List (List Nat)}(hl:dh l (xs.map sd))(hz:(xs.map (·.length)).sum+xs.length * sep.length<=1000000):dm c n (.builtin "str.join") [.d (sd sep),l] (.d (sd (bT sep xs))):=by
 intro aa Z A s Q E ow vs rm I rs h
 refine aT.bn rs λ_ _ r ao=>aT.bn ao λ_ _ r2 ao=>aT.bO ao<|ag.bw r λt=>cw (r2.eq hl) λa vs am la ra=>ab am<|ah (DZ ra) λps bd hp=>?_;subst bd
 refine wpAny_with_toks (Nat.le_refl _) (SC.join la.isList hp (t8 hz) λt' k ht=>?_)
 rw[wF]
 exact h _ _ (.str _ _) (.tok I.ok _ ht)
end
end
section
theorem wz:mroOf (.type "object")=pure [.type "object"]:=by kernel_rfl
theorem A5:typeLookup (.type "object") "__new__"=pure (some (.builtin "object.__new__")):=by kernel_rfl
theorem A6:Slot "object" "__init__" "object.__init__":=
 .of (T:="object") (name:="__init__") (owner:="object") (n:="__init__") (by kernel_rfl) (by decide+kernel) (by decide+kernel) (by decide+kernel)
  (.inl (by decide+kernel)) (by kernel_rfl)
theorem BH:TypeCalled "object" "object.__new__" "object.__init__":=
 ⟨by decide+kernel,by decide+kernel,⟨_,_,wz⟩,madeBy_type wz A5 (by decide+kernel),by decide+kernel,by kernel_rfl,A6⟩
theorem A9:checkTypeCall "object" ⟨[],[]⟩=pure ():=by kernel_rfl
theorem Bh:checkBuiltinCall "object.__new__" ⟨[.type "object"],[]⟩=pure ():=by kernel_rfl
noncomputable def Ay:Obj:={cls:=.type "object",data:=.plain}
theorem Dj:Meets (Builtin.«object.__new__» ⟨[.type "object"],[]⟩) (λA R s=>R (.ok (.ret (.ref s.heap.objs.size))) {s with heap:=s.heap.push Ay}):=by
 refine Meets.of_wp λprog w A R s h=>?_
 unfold Builtin.«object.__new__»
 have e2:Bind.madeHere "object.__new__" (.type "object")=pure ():=by kernel_rfl
 refine wpAny_bind (wpAny_of_eq (by first | rfl | kernel_rfl:isType (.type "object")=pure true) ?_)
 refine KFB.if_not (by rfl)<|KFB.if_not (by kernel_rfl)<|wpAny_bind (wpAny_of_eq e2 ?_)
 refine KFB.if_not (by rfl)<|KFB.if_not (by kernel_rfl)<|wpAny_bind (wpAny_pure ?_)
 refine wpAny_bind (wpAny_newObj_type ?_ (by size_fits))
 exact KFB.if_not (by kernel_rfl)<|wpAny_pure ⟨_,rfl,h⟩
theorem CA(a:Value):Meets (Builtin.«object.__init__» ⟨[a],[]⟩) (λA R s=>R (.ok (.ret .none)) s):=
 Meets.of_wp λprog w A R s h=>by
  exact wpAny_pure ⟨_,rfl,h⟩
section
variable {c:Cx} {n:Nat}
theorem Ey:dm c n (.type "object") [] (.d .obj):=by
 intro aa Z A s Q E ow vs rm I rs h
 refine aT.bO rs<|callType_meets BH A9 Bh F.entry_object_new F.entry_object_init Dj (Q₁:=λobj aD=>obj=.ref s.heap.objs.size/\aD={s with heap:=s.heap.push Ay}) ⟨rfl,rfl⟩ λobj aD hq=>?_
 obtain⟨rfl,rfl⟩:=hq
 refine dQ ⟨_,Heap.get?_push_size _ rfl,rfl⟩ (oi_args _) ⟨_,CA _,rfl,?_⟩
 exact h _ _ (.obj _) (.push I.ok _ s.toks)
end
end
section
section
variable {w:World} {A:Around} {R:Result->Shared->Prop} {s:Shared}
theorem D2{elt:Expr}{g1 g2:Comprehension}{ao:List Comprehension}{sc:Scope}{pos:Pos}{it acc:Value}{aa:Env}(h2:g2.is_async=0)
  (h0:codeAny (model pg w) A (.compLoop (.ListComp elt (g1::g2::ao) sc pos) 1 it acc aa) R s)
  (h:wpAny (model pg w) A (pyIter it) (λit' s'=>codeAny (model pg w) A (.compLoop (.ListComp elt (g1::g2::ao) sc pos) 1 it' acc aa) R s')
   (notedBy (model pg w) A aa λx s'=>R (.error x) s') s):
  codeAny (model pg w) A (.compStart (.ListComp elt (g1::g2::ao) sc pos) 1 it acc aa) R s:=by
 obtain⟨t2,i2,f2,a2⟩:=g2
 simp only at h2
 subst h2
 refine codeAny_of_tree<|wpAny_notedAt<|wpAny_bind (wpAny_askSetting (wpAny_ite ?_))
 refine bq (λ_=>?_) λ_=>?_
 ·first
   | exact wpAny_bind (wpAny_pure (wpAny_pure (And.intro rfl h0)))
   | exact wpAny_pure (And.intro rfl h0)
 ·first
   | exact wpAny_bind (wpAny_rule (wpAny_bind (wpAny_standAt (wpAny_bind (wpAny_mono h (λit' s' h'=>wpAny_pure (And.intro rfl h')) λ_ _ x=>x)))))
   | (refine wpAny_bind (wpAny_rule ?_);show wpAny _ _ (standAt i2.pos >>= _) _ _ s;exact wpAny_bind (wpAny_standAt (wpAny_bind (wpAny_mono h (λit' s' h'=>wpAny_pure (And.intro rfl h')) λ_ _ x=>x))))
theorem Hv(elt t1 i1 t2 i2:Expr)(sc:Scope)(pos:Pos)(it acc:Value)(aa:Env):
  compTurn (.ListComp elt [⟨t1,i1,[],0⟩,⟨t2,i2,[],0⟩] sc pos) 0 it acc aa=(standAt i1.pos >>= λ_=>pyNext it >>= λr=>match r with
   | none=>pure (.done .next)
   | some v=>letOwnedTupleGo t1 it v >>= λ_=>assign t1 aa v >>= λ_=>
    (eval i2 aa >>= λx=>standAt i2.pos >>= λ_=>foldedSetIterable i2 aa x >>= λx=>holding [x] (pyIter x) >>= λcg=>
     runOwn (.compStart (.ListComp elt [⟨t1,i1,[],0⟩,⟨t2,i2,[],0⟩] sc pos) 1 cg acc aa) aa >>= λ_=>
     again (.compLoop (.ListComp elt [⟨t1,i1,[],0⟩,⟨t2,i2,[],0⟩] sc pos) 0 it acc aa))):=by rfl
theorem Hu(elt t1 i1 t2 i2:Expr)(sc:Scope)(pos:Pos)(it acc:Value)(aa:Env):
  compTurn (.ListComp elt [⟨t1,i1,[],0⟩,⟨t2,i2,[],0⟩] sc pos) 1 it acc aa=(standAt i2.pos >>= λ_=>pyNext it >>= λr=>match r with
   | none=>pure (.done .next)
   | some v=>letOwnedTupleGo t2 it v >>= λ_=>assign t2 aa v >>= λ_=>
    (eval elt aa >>= λx=>call (.builtin "list.append") [acc,x] >>= λ_=>pure ()) >>= λ_=>
     again (.compLoop (.ListComp elt [⟨t1,i1,[],0⟩,⟨t2,i2,[],0⟩] sc pos) 1 it acc aa)):=by rfl
theorem Iv{elt t1 i1 t2 i2:Expr}{sc:Scope}{pos:Pos}{it acc:Value}{aa:Env}(I:Nat->Shared->Prop)
  (turn:∀n s,I n s->wpAny (model pg w) A (pyNext it) (λr aD=>match r with
   | none=>R (.ok .next) aD
   | some v=>wpAny (model pg w) A (assign t2 aa v) (λ_ ey=>wpAny (model pg w) A (eval elt aa) (λx fX=>
     wpAny (model pg w) A (call (.builtin "list.append") [acc,x]) (λ_ s₄=>∃m,m < n/\I m s₄) (notedBy (model pg w) A aa λe s'=>R (.error e) s') fX)
     (notedBy (model pg w) A aa λe s'=>R (.error e) s') ey) (notedBy (model pg w) A aa λe s'=>R (.error e) s') aD) (notedBy (model pg w) A aa λe s'=>R (.error e) s') s)
  (n:Nat) (h:I n s) (ht:∀v,letOwnedTupleGo t2 it v=pure ():=by intro _;rfl):
  codeAny (model pg w) A (.compLoop (.ListComp elt [⟨t1,i1,[],0⟩,⟨t2,i2,[],0⟩] sc pos) 1 it acc aa) R s:=by
 refine codeAny_loop rfl I (λn s hI=>?_) n h
 refine wpAny_noted ?_
 rw[Hu]
 refine wpAny_bind (wpAny_standAt (wpAny_bind (wpAny_mono (turn n s hI) (λr aD gw=>?_) λ_ _ h'=>h')))
 cases r with
 | none=>exact wpAny_pure gw
 | some v=>
  refine wpAny_bind (wpAny_of_eq (ht v) ?_)
  exact wpAny_bind (wpAny_mono gw (λ_ ey h₂=>wpAny_bind (wpAny_bind (wpAny_mono h₂ (λx fX h₃=>wpAny_bind (wpAny_mono h₃
   (λ_ s₄ h₄=>wpAny_pure (wpAny_pure ⟨rfl,h₄⟩)) λ_ _ h'=>h')) λ_ _ h'=>h'))) λ_ _ h'=>h')
theorem Iw{elt t1 i1 t2 i2:Expr}{sc:Scope}{pos:Pos}{it acc:Value}{aa:Env}(I:Nat->Shared->Prop)(jn:∀x,foldedSetIterable i2 aa x=pure x)
  (turn:∀n s,I n s->wpAny (model pg w) A (pyNext it) (λr aD=>match r with
   | none=>R (.ok .next) aD
   | some v=>wpAny (model pg w) A (assign t1 aa v) (λ_ ey=>wpAny (model pg w) A (eval i2 aa) (λx fX=>
     wpAny (model pg w) A (pyIter x) (λcg s₄=>codeAny (model pg w) A (.compStart (.ListComp elt [⟨t1,i1,[],0⟩,⟨t2,i2,[],0⟩] sc pos) 1 cg acc aa)
      (λr s₅=>r=.ok .next/\∃m,m < n/\I m s₅) s₄) (notedBy (model pg w) A aa λe s'=>R (.error e) s') fX)
     (notedBy (model pg w) A aa λe s'=>R (.error e) s') ey) (notedBy (model pg w) A aa λe s'=>R (.error e) s') aD) (notedBy (model pg w) A aa λe s'=>R (.error e) s') s)
  (n:Nat) (h:I n s) (ht:∀v,letOwnedTupleGo t1 it v=pure ():=by intro _;rfl):
  codeAny (model pg w) A (.compLoop (.ListComp elt [⟨t1,i1,[],0⟩,⟨t2,i2,[],0⟩] sc pos) 0 it acc aa) R s:=by
 refine codeAny_loop rfl I (λn s hI=>?_) n h
 refine wpAny_noted ?_
 rw[Hv]
 refine wpAny_bind (wpAny_standAt (wpAny_bind (wpAny_mono (turn n s hI) (λr aD gw=>?_) λ_ _ h'=>h')))
 cases r with
 | none=>exact wpAny_pure gw
 | some v=>
  refine wpAny_bind (wpAny_of_eq (ht v) ?_)
  refine wpAny_bind (wpAny_mono gw (λ_ ey h₂=>wpAny_bind (wpAny_mono h₂ (λx fX h₃=>wpAny_bind (wpAny_standAt (wpAny_bind (wpAny_of_eq (jn x) (wpAny_bind (wpAny_holding (wpAny_mono h₃ (λcg s₄ h₄=>wpAny_bind (wpAny_runOwn (codeAny_mono h₄ λr s₅ h₅=>?_))) λ_ _ h'=>h'))))))) λ_ _ h'=>h')) λ_ _ h'=>h')
  obtain⟨rfl,h₅⟩:=h₅
  exact wpAny_pure ⟨rfl,h₅⟩
end
section
variable {c:Cx} {n:Nat} {aa:Env} {Z:Ctx}
noncomputable def NW{α:Type}(D:Addr)(an:List (String×Mine.D))(xs:List α)(aB:List α->List Mine.D):Nat->Ctx->Ow->Prop:=CM D an xs aB
theorem E3{α β:Type}{sc0 sc:Scope}{elt i1 i2:Expr}{x y:String}{px py pos:Pos}{an:List (String×D)}(xs:List α)(aY:α->D)(ys:α->List β)(cF:α->β->D)(out:α->β->D)
  (K:f7 sc0 sc Z an) (hz:(xs.flatMap λa=>(ys a).map (out a)).length<=100000)
  (hx:sc.names.lookup (Str.ofString x)=some .local∨sc.names.lookup (Str.ofString x)=some .cell) (hxa:x≠"%acc")
  (hy:sc.names.lookup (Str.ofString y)=some .local∨sc.names.lookup (Str.ofString y)=some .cell) (hya:y≠"%acc") (ci:x≠y)
  (jn:∀cenv v,foldedSetIterable i2 cenv v=pure v)
  (hit2:∀c' bx a,dN c c'->b9 sc bx->a∈xs->It c' n bx ((x,.d (aY a))::b6 an) i2 ((ys a).map (cF a)))
  (body:∀c' bx a b,dN c c'->b9 sc bx->a∈xs->b∈ys a->Ev c' n bx ((y,.d (cF a b))::(x,.d (aY a))::b6 an) elt (.d (out a b))):
  gN c n sc an elt [⟨.Name (Str.ofString x) px,i1,[],0⟩,⟨.Name (Str.ofString y) py,i2,[],0⟩] pos (xs.map aY) (xs.flatMap λa=>(ys a).map (out a)):=by
 intro A c1 cenv D it fp hl P St s4 R Γ0 ow0 rm lk bV place L I0 f0 fc0 eo f8 hpk q
 have hw:=lk.w
 let F:List α->List Mine.D:=λl=>l.flatMap λa=>(ys a).map (out a)
 have s0:ia c1 cenv it (xs.map aY) fp St (CM D an xs F) ((xs.map aY).length+1) s4:=⟨0,Γ0,ow0,rfl,Nat.zero_le _,⟨f0,fc0,eo⟩,I0,f8,hpk⟩
 have hxcap:=K.off hx
 have hycap:=K.off hy
 have zlen:∀j k,(F (xs.take j)).length+k<=(F (xs.take (j+1))).length->(F (xs.take j)).length+k<=100000:=λj k h=>by
  refine Nat.le_trans h (Nat.le_trans ?_ hz)
  have e:xs=xs.take (j+1)++xs.drop (j+1):=(List.take_append_drop _ _).symm
  conv=>rhs;rw[e,List.flatMap_append,List.length_append]
  exact Nat.le_add_right _ _
 rw[<- hw]
 refine Iw (ia c1 cenv it (xs.map aY) fp St (CM D an xs F)) (jn cenv) (λk s hs=>?_) _ s0
 refine sR L hs (λj af aH v d s3 hM hd bl Ip rv I3 back=>?_) λaf aH s3 hM I3=>?_
 ·refine bB hM λm1 m2 m3=>?_
  have hj:j < xs.length:=by simpa using bl
  obtain⟨a,ha,rfl⟩:∃a,xs[j]? =some a/\d=aY a:=by
   rw[List.getElem?_map,List.getElem?_eq_getElem hj]at hd
   exact⟨_,List.getElem?_eq_getElem hj,(Option.some.inj hd).symm⟩
  have eJ:a∈xs:=List.mem_of_getElem? ha
  have tk1:F (xs.take (j+1))=F (xs.take j)++(ys a).map (out a):=by
   show(xs.take (j+1)).flatMap _=(xs.take j).flatMap _++_
   rw[List.take_add_one,ha,List.flatMap_append];simp
  let c2:=pinAt c1 s3.heap fp []
  refine wpAny_assign_Name (fK (c:=c2) Ip (place x hx) rv λs5 I5=>?_)
  have lk2:dN c c2:=⟨lk.w,lk.V,lk.J,lk.D,lk.os,lk.tz⟩
  refine hit2 c2 cenv a lk2 bV eJ A s5 _ _ aH rm (I5.sub (sub_one m2)) λcg s6 s7 st6 X=>?_
  have I6:=I5.step st6
  have I7:=I6.step X.step
  refine jQ X.w λfp2 eY P2 St2 W2 aG hfp2 ar=>jh ar λhK2 hex2 hheld2 hP2=>?_
  let c3:=pinAt c2 s7.heap [] eY
  have base:Inv c3 cenv (upd af x (.d (aY a))) aH s7:=I7.pinned (λ_ h=>nomatch h) hheld2
  have L2:o6 c3 A cg ((ys a).map (cF a)) fp2 eY P2 St2:=⟨W2,hK2,hex2,hP2,Nat.le_trans I6.bs.size X.new,gr I6.ok I6.bs X.new,by
   show(if cg∈([]:List Addr)then s7.heap.get? cg else c2.pin cg)=none
   rw[if_neg (of_decide_eq_true rfl)];exact I6.bs.mQ X.new,λp hp=>List.mem_append_left _ hp⟩
  have facc:find (upd af x (.d (aY a))) "%acc"=some (.own (F (xs.take j))):=by rw[ai,if_neg hxa];exact m1
  have fcap:∀p∈an,find (upd af x (.d (aY a))) p.1=some (.d p.2):=λp hp=>by rw[ai,if_neg (λe=>hxcap p hp e.symm)];exact m2 p hp
  have fx:find (upd af x (.d (aY a))) x=some (.d (aY a)):=by rw[ai,if_pos rfl]
  let M2:Nat->Ctx->Ow->Prop:=λi cH f9=>find cH "%acc"=some (.own (F (xs.take j)++((ys a).take i).map (out a)))/\(∀p∈an,find cH p.1=some (.d p.2))/\find cH x=some (.d (aY a))/\f9 "%acc"=some D
  have s0':ia c3 cenv cg ((ys a).map (cF a)) fp2 St2 M2 (((ys a).map (cF a)).length+1) s7:=⟨0,_,aH,rfl,Nat.zero_le _,⟨by rw[facc];simp,fcap,fx,m3⟩,base,aG,hfp2⟩
  have inner:codeAny (model pg c1.w) A (.compLoop (.ListComp elt [⟨.Name (Str.ofString x) px,i1,[],0⟩,⟨.Name (Str.ofString y) py,i2,[],0⟩] sc pos) 1 (.ref cg) (.ref D) cenv)
    (λr s₅=>r=.ok .next/\∃m,m < k/\ia c1 cenv it (xs.map aY) fp St (CM D an xs F) m s₅) s7:=by
   refine Iv (ia c3 cenv cg ((ys a).map (cF a)) fp2 St2 M2) (λk2 s hs=>?_) _ s0'
   refine sR (c:=c3) L2 hs (λi cH f9 v d s8 hM2 hd2 hlt2 Ip2 rv2 I8 back2=>?_) λcH f9 s8 hM2 I8=>?_
   ·refine jh hM2 λn1 n2 n3 n4=>?_
    have hi:i < (ys a).length:=by simpa using hlt2
    obtain⟨b,hb,rfl⟩:∃b,(ys a)[i]? =some b/\d=cF a b:=by
     rw[List.getElem?_map,List.getElem?_eq_getElem hi]at hd2
     exact⟨_,List.getElem?_eq_getElem hi,(Option.some.inj hd2).symm⟩
    let c4:=pinAt c3 s8.heap fp2 []
    refine wpAny_assign_Name (fK (c:=c4) Ip2 (place y hy) rv2 λs9 I9=>?_)
    have lk4:dN c c4:=⟨lk.w,lk.V,lk.J,lk.D,lk.os,lk.tz⟩
    have sub:∀z l,find ((y,.d (cF a b))::(x,.d (aY a))::b6 an) z=some l->find (upd cH y (.d (cF a b))) z=some l:=λz l h=>by
     rw[ai]
     have h':(if y=z then some (LV.d (cF a b))else if x=z then some (LV.d (aY a))else find (b6 an) z)=some l:=h
     split at h'
     ·rename_i e;rw[if_pos e];exact h'
     ·rename_i e
      rw[if_neg e]
      split at h'
      ·rename_i e2;refine rB e2 ?_;rw[n3];exact h'
      ·exact ah (tb h') λd' ck am=>ab am<|n2 _ ck
    refine(body c4 cenv a b lk4 bV eJ (List.mem_of_getElem? hb)).run A s9 _ _ f9 rm (I9.sub sub) λv10 s10 r10 st10=>?_
    have I10:=I9.step st10
    have facc2:find (upd cH y (.d (cF a b))) "%acc"=some (.own (F (xs.take j)++((ys a).take i).map (out a))):=by rw[ai,if_neg hya];exact n1
    refine pY (c:=c4) I10 facc2 n4 r10 (by
     have:=zlen j i (by rw[tk1,List.length_append,List.length_map];lia)
     rw[List.length_append,List.length_map,List.length_take];lia) λs11 I11=>?_
    refine back2 _ f9 s11 I11 ⟨?_,λp hp=>?_,?_,n4⟩
    ·rw[ai,if_pos rfl,List.take_add_one,hb]
     simp[List.append_assoc]
    ·rw[ai,if_neg (λe=>(K.at_ p hp).2.1 e.symm),ai,if_neg (λe=>hycap p hp e.symm)];exact n2 p hp
    ·rw[ai,if_neg (λe=>hxa e.symm),ai,if_neg (λe=>ci e.symm)];exact n3
   ·refine jh hM2 λn1 n2 n3 n4=>?_
    rw[List.length_map,List.take_length,<- tk1]at n1
    refine⟨rfl,back cH f9 s8 (I8.fS I7.bs.pins I7.ok.pv) ⟨n1,n2,n4⟩⟩
  exact D2 rfl inner (W2.self 0 _ _ _ aG inner)
 ·refine bB hM λm1 m2 m3=>?_
  rw[List.length_map,List.take_length]at m1
  exact q af aH s3 I3 m1 m3
end
end
noncomputable def fD(name qual:Str)(st:Stmt)(dV kV pm:Value)(cd:Addr):FuncData:={name:=name,qualname:=qual,params:=rA st,body:=.stmts (bu st),scope:=cU st,globals:=3,closure:=[],defaults:=dV,kwdefaults:=kV,doc:=.none,pyModule:=pm,annotations:=none,code:=.ref cd,closureTuple:=.none,builtins:=0}
theorem zc:cV 209 (fD "_law_takes" "_law_takes" (aA 34) .none .none eM 208) (bu (aA 34)):=
 ⟨λP=>⟨_,rfl,rfl⟩,rfl,rfl,⟨208,rfl,by decide+kernel⟩,rfl,rfl,rfl,rfl,rfl⟩
noncomputable abbrev bZ:=Bool×List Nat
noncomputable def fU(i:bZ):D:=.list [.bool i.1,.list (i.2.map λk=>sd [k])]
noncomputable def cO(l:List bZ):D:=.list (l.map fU)
noncomputable def bad(items:List bZ)(name:List Nat)(k:Nat):Bool:=match name[k]?,items[k]? with
 | some x,some i=>decide (x∈i.2)==i.1
 | _,_=>false
noncomputable def eT(items:List bZ)(name:List Nat):Bool:=items.length==name.length&&((List.range name.length).filter (bad items name)).isEmpty
theorem zB{vs:List Value}(h:1=vs.length):∃x,vs=[x]:=(List.length_eq_one_iff.mp h.symm)
theorem qD{vs:List Value}(h:2=vs.length):∃x y,vs=[x,y]:=by
 cases vs with
 | nil=>exact nomatch h
 | cons x r=>exact(zB (Nat.succ.inj h)).elim λy e=>⟨x,y,congrArg (x::·) e⟩
theorem Ft{vs:List Value}(h:3=vs.length):∃x y z,vs=[x,y,z]:=by
 cases vs with
 | nil=>exact nomatch h
 | cons x r=>exact cY (qD (Nat.succ.inj h)) λy z e=>⟨x,y,z,congrArg (x::·) e⟩
theorem md{fd:FuncData}(a:String)(h:∀x,bindArgs fd ⟨[x],[]⟩=pure [(Str.ofString a,x)]:=by intro _;rfl):∀vs:List Value,[a].length=vs.length->bindArgs fd ⟨vs,[]⟩=pure (([a].map Str.ofString).zip vs):=by
 intro vs hl
 exact aW (zB hl) λx bd=>ab bd<|h x
theorem qX{fd:FuncData}(a b:String)(h:∀x y,bindArgs fd ⟨[x,y],[]⟩=pure [(Str.ofString a,x),(Str.ofString b,y)]:=by intro _ _;rfl):∀vs:List Value,[a,b].length=vs.length->bindArgs fd ⟨vs,[]⟩=pure (([a,b].map Str.ofString).zip vs):=by
 intro vs hl
 exact cY (qD hl) λx y am=>ab am<|h x y
theorem ny{fd:FuncData}(a b d:String)(h:∀x y z,bindArgs fd ⟨[x,y,z],[]⟩=pure [(Str.ofString a,x),(Str.ofString b,y),(Str.ofString d,z)]:=by intro _ _ _;rfl):∀vs:List Value,[a,b,d].length=vs.length->bindArgs fd ⟨vs,[]⟩=pure (([a,b,d].map Str.ofString).zip vs):=by
 intro vs hl
 exact MU (Ft hl) λx y z dH=>ab dH<|h x y z
noncomputable def rH(Z:Ctx):List (String×D)->Prop
 | []=>True
 | (x,d)::r=>find Z x=some (.d d)/\rH Z r
noncomputable def lR(sc0 sc:Scope)(names:List String):Bool:=
 names.all (λx=>decide (x≠"%acc")&&sc.names.any (λy=>y.1==Str.ofString x&&y.2==.free)&&(sc0.names.lookup (Str.ofString x)==some .cell||sc0.names.lookup (Str.ofString x)==some .free))
 &&sc.names.all (λy=>y.2 !=.free||names.any λx=>Str.ofString x==y.1)
 &&decide (sc.names.map (·.1)).Nodup&&sc.kind==.function&&decide names.Nodup
theorem kM{sc0 sc:Scope}{Z:Ctx}{an:List (String×D)}(names:List String)(hf:rH Z an)(hd:lR sc0 sc names=true)(hn:an.map (·.1)=names:=by rfl):f7 sc0 sc Z an:=by
 subst hn
 unfold lR at hd
 simp only[Bool.and_eq_true,decide_eq_true_eq,List.all_eq_true]at hd
 obtain⟨⟨⟨⟨h1,h2⟩,h3⟩,h4⟩,h5⟩:=hd
 have e9:∀p∈an,find Z p.1=some (.d p.2):=by
  clear h1 h2 h3 h4 h5
  induction an with
  | nil=>intro p hp;cases hp
  | cons q r ih=>
   intro p hp
   obtain⟨x,d⟩:=q
   rcases List.mem_cons.mp hp with e | hp
   ·exact ab e hf.1
   ·exact ih hf.2 p hp
 refine⟨λp hp=>?_,λy hy hk=>?_,h3,by simpa using h4,h5⟩
 ·obtain⟨⟨a1,a2⟩,a3⟩:=h1 p.1 (List.mem_map.mpr ⟨p,hp,rfl⟩)
  refine lj (e9 p hp) a1 ?_ ?_
  ·rw[List.any_eq_true]at a2
   refine ah a2 λaw hm e=>?_;obtain⟨n,k⟩:=aw
   simp only[Bool.and_eq_true,beq_iff_eq]at e
   obtain⟨e1,e2⟩:=e
   subst e1 e2
   exact hm
  ·simpa using a3
 ·have:=h2 y hy
  rw[hk]at this
  simp only[bne_self_eq_false,Bool.false_or,List.any_eq_true]at this
  refine ah this λx hx e=>ah (List.mem_map.mp hx) λp hp am=>?_;subst am
  exact aJ p hp (by simpa using e)
theorem MN(a b:List Nat):(S a==S b)=(a==b):=by
 rw[Bool.eq_iff_iff,beq_iff_eq,beq_iff_eq];exact⟨o4,congrArg S⟩
theorem He(x:Nat)(l:List Nat):((l.map λk=>sd [k]).any λe=>bA e (sd [x]))=decide (x∈l):=by
 induction l with
 | nil=>rfl
 | cons y r ih=>
  refine ab List.map_cons<|ab List.any_cons<|ab ih ?_
  have:bA (sd [y]) (sd [x])=decide (y=x):=by
   show(S [y]==S [x])=_
   rw[MN,Bool.eq_iff_iff,beq_iff_eq,decide_eq_true_iff];exact⟨λh=>List.head_eq_of_cons_eq h,λh=>by exact ab h rfl⟩
  refine ab this ?_;rw[Bool.eq_iff_iff,Bool.or_eq_true,decide_eq_true_iff,decide_eq_true_iff,decide_eq_true_iff,List.mem_cons]
  exact or_congr_left eq_comm
theorem GL{items:List bZ}{name:List Nat}(h1:items.length<=1000)(h2:name.length<=1000):Fn 2 209 [cO items,sd name] (.bool (eT items name)):=by
 refine qV zc (names:=["items","name"]) (qX "items" "name") rfl (by decide) (by decide+kernel) λc aa tz eo _=>?_
 have aV:=eo.kind (x:="len") (k:=.globalImplicit) (by decide+kernel)
 have hrange:=eo.kind (x:="range") (k:=.globalImplicit) (by decide+kernel)
 have L1:(items.map fU).length=items.length:=List.length_map ..
 refine g7<|nF (a:=!(items.length==name.length)) ?_ (λha=>?_) (λha=>?_)
 ·refine mZ<|(show(!(items.length==name.length))=(false||((((items.map fU).length:Int)!=(name.length:Int))||false))from ?_)▸or_cons ?_ λ_=>or_cons ?_ λ_=>or_nil
  ·rw[L1]
   simp only[bne,Bool.or_false,Bool.false_or]
   congr 1
   rw[Bool.eq_iff_iff];simp;lia
  ·exact i5 (a:=.d (cO items)) (b:=.d .none) (bK rfl) lE (sF _)
  ·refine i5 ?_ ?_ (xb _ _)
   ·refine ot oq aV ?_ (so (fm _) (by lia))
    exact gq (bK rfl) gt
   ·refine ot oq aV ?_ (sG (by lia))
    exact gq (bK rfl) gt
 ·refine g7<|jX yU (.inl rfl) ?_
  show az.ret _=az.ret _
  congr 2
  unfold eT
  have:(items.length==name.length)=false:=by simpa using ha
  rw[this];rfl
 ·have hl:items.length=name.length:=by simpa using ha
  refine ly<|kH<|jX (l:=.d (.bool (eT items name))) ?_ (.inl rfl) rfl
  refine qK (a:=.d (.list (((List.range name.length).filter (bad items name)).map λk:Nat=>.int (k:Int)))) (b:=.d (.list [])) ?_ ?_ ?_
  ·refine ub (sc0:=cU (aA 34)) (an:=[("items",cO items),("name",sd name)]) (ds:=(List.range name.length).map λk:Nat=>.int (k:Int)) eo.c ?_ ?_ ?_
   ·exact kM ["items","name"] ⟨rfl,rfl,trivial⟩ (by decide+kernel)
   ·refine xn hrange ?_ (by lia)
    refine ot oq aV ?_ (sG (by lia))
    exact gq (bK rfl) gt
   ·refine qd (x:="k") (List.range name.length) (λk:Nat=>.int (k:Int)) (bad items name) (λk:Nat=>.int (k:Int)) (kM (Z:=[("items",.d (cO items)),("name",.d (sd name))]) (sc0:=cU (aA 34)) ["items","name"] ⟨rfl,rfl,trivial⟩ (by decide+kernel)) (by simpa using Nat.le_trans h2 (by decide)) (.inl (by decide+kernel)) (by decide) λc' bx k lk bV hk=>⟨?_,λ_=>?_⟩
    ·refine tW ?_
     have hk':k < name.length:=List.mem_range.mp hk
     have hki:k < items.length:=by lia
     have e1:name[k]? =some name[k]:=List.getElem?_eq_getElem hk'
     have e2:items[k]? =some items[k]:=List.getElem?_eq_getElem hki
     have ix:dJ name.length (k:Int)=k:=by unfold dJ;rw[if_neg (by lia)];exact Int.toNat_natCast k
     have ix2:dJ (items.map fU).length (k:Int)=k:=by unfold dJ;rw[if_neg (by lia)];exact Int.toNat_natCast k
     have hb:bad items name k=(decide (name[k]∈items[k].2)==items[k].1):=by unfold bad;rw[e1,e2]
     rw[hb]
     have it:∀p1 p2 p3,Ev c' 1 bx [("k",.d (.int (k:Int))),("items",.d (cO items)),("name",.d (sd name))] (.Subscript (.Name "items" p1) (.Name "k" p2) p3) (.d (fU items[k])):=λ_ _ _=>
      lF (a:=.d (cO items)) (i:=.d (.int (k:Int))) (bK rfl) (bK rfl) (oB (fm (items.map fU)) (by lia) (by lia) (by lia) (by rw[ix2,List.getElem?_map,e2];rfl))
     refine i5 (a:=.d (.bool (decide (name[k]∈items[k].2)))) (b:=.d (.bool items[k].1)) ?_ ?_ (wx _ _)
     ·refine qK (a:=.d (sd [name[k]])) (b:=.d (.list (items[k].2.map λk=>sd [k]))) ?_ ?_ ?_
      ·exact lF (bK rfl) (bK rfl) (us (by lia) (by lia) (by lia) (by rw[ix];exact e1))
      ·exact lF (it _ _ _) gP (oB (fm [.bool items[k].1,.list (items[k].2.map λk=>sd [k])]) (by simp) (by simp) (by simp) rfl)
      ·have:=wv (c:=c') (n:=1) (fm (items[k].2.map λk=>sd [k])) (d:=sd [name[k]]) 0 (λe he=>by exact ah (List.mem_map.mp he) λx _ am=>rB am<|Iz 0 _ _)
       rw[show((items[k].2.map λk=>sd [k]).any λe=>bA e (sd [name[k]]))=decide (name[k]∈items[k].2)from He _ _]at this
       exact this
     ·exact lF (it _ _ _) gP (oB (fm [.bool items[k].1,.list (items[k].2.map λk=>sd [k])]) (by simp) (by simp) (by simp) rfl)
    ·exact bK rfl
  ·refine oD (ds:=[]) ?_ (by decide)
   exact gt
  ·have:=ww (c:=c) (n:=1) (fm (((List.range name.length).filter (bad items name)).map λk:Nat=>D.int (k:Int))) (fm []) 0 (EI 0 _)
   rw[show eT items name=eB (((List.range name.length).filter (bad items name)).map λk:Nat=>D.int (k:Int)) []from ?_]
   ·exact this
   ·unfold eT
    rw[show(items.length==name.length)=true by simpa using hl,Bool.true_and]
    cases ((List.range name.length).filter (bad items name))<;>rfl
section
section
variable {c:Cx} {n:Nat} {aa:Env} {Z:Ctx}
theorem bI.ext{c c':Cx}{sc:Scope}{aa:Env}(e:bI c sc aa)(x:eP c c'):bI c' sc aa:=by
 exact cY x λp h am=>ab am<|⟨e.sc,e.cells⟩
theorem eP.pinAt(c:Cx)(h:Heap)(fp:List Addr)(hl:List (Value×D)):eP c (Mine.pinAt c h fp hl):=⟨_,_,rfl⟩
theorem eP.trans{c c' c'':Cx}(x:eP c c')(y:eP c' c''):eP c c'':=by
 refine cY x λp h am=>?_;subst am
 exact cY y λp' h' am=>ab am<|M3 p' h' rfl
theorem sf{w:World}{A:Around}{s:Shared}{es:List Expr}{k m:Nat}{tp:Pos}{Qi:List Value->Shared->Prop}{E:Value->Shared->Prop}(hh:A.handled=none)(hm:m<=1000)
  (h:wpAny (model pg w) A (spliced (backTo tp (starEach es aa))) (λvs aD=>vs.length=m/\∀s',aD.heap.objs.size<=s'.heap.objs.size->(∀a o,aD.heap.get? a=some o->s'.heap.get? a=some o)->s'.os=aD.os->s'.gens=aD.gens->aD.toks<=s'.toks->Qi vs s') E s):
  wpAny (model pg w) A (eval (.Tuple es k tp) aa) (λv aD=>wpAny (model pg w) A (unpackItems v m none) Qi E aD) E s:=by
 refine Tuple_ (wpAny_mono h (λvs aD gw=>?_) λ_ _ e=>e)
 refine bR gw λhl hq=>wpAny_newTuple ?_ (by exact ab hl<|ab sizeLine_eq<|Nat.le_trans ‹_› (Nat.le_add_left _ _))
 have ht:IsTup (aD.heap.push {cls:=.type "tuple",data:=.seq vs.toArray}) aD.heap.objs.size vs.toArray:=⟨_,Heap.get?_push_size _ rfl,rfl,_,rfl⟩
 have e:m=vs.toArray.size:=by refine ab List.size_toArray ?_;rw[hl]
 refine ab e<|iw (unpackItems_tuple (s:={aD with heap:=aD.heap.push {cls:=.type "tuple",data:=.seq vs.toArray}}) hh ht λh' he hz=>?_)
 refine hq _ ?_ (λa o e=>?_) rfl rfl (Nat.le_refl _)
 ·refine Nat.le_trans ?_ hz.1
  rw[Heap.size_push];exact Nat.le_succ _
 ·refine he a o ?_ (Heap.get?_push_of_some _ e)
  rw[Heap.size_push]
  exact Nat.ne_of_lt (Nat.lt_succ_of_lt (Heap.lt_size e))
theorem yE{x y:String}{px py tp fy pos:Pos}{k k':Nat}{e f:Expr}{d1 d2:D}{P:az->Prop}(hx:cr c aa x)(hy:cr c aa y)(h1:Ev c n aa Z e (.d d1))(h2:Ev c n aa Z f (.d d2))
  (hP:P (.next (upd (upd Z y (.d d2)) x (.d d1))))
  (hw:swappedStores [.Tuple [.Name (Str.ofString x) px,.Name (Str.ofString y) py] k tp] (.Tuple [e,f] k' fy) aa=pure (some [Str.ofString x,Str.ofString y]))
  (he:starEach [e,f] aa=[(false,eval e aa),(false,eval f aa)]:=by rfl) (hf:starEach [f] aa=[(false,eval f aa)]:=by rfl)
  (hs:swapsWithSole [.Tuple [.Name (Str.ofString x) px,.Name (Str.ofString y) py] k tp] (.Tuple [e,f] k' fy) pos.line aa=pure false:=by rfl):
  bY c n aa Z (.Assign [.Tuple [.Name (Str.ofString x) px,.Name (Str.ofString y) py] k tp] (.Tuple [e,f] k' fy) pos) P:=by
 refine⟨?_⟩
 intro A s Q E ow rm I q
 refine Assign_Tuple_swapped (names:=[Str.ofString x,Str.ofString y]) ?_ hs hw
 refine sf rm.h (Nat.le_add_left _ _)<|gq h1 (gq h2 gt (by refine ab hf ?_;rfl)) (by refine ab he ?_;rw[hf]) A s _ E ow rm I λvs s1 rs st=>?_
 refine aT.bn rs λ_ _ r1 ao=>aT.bn ao λ_ _ r2 ao=>aT.bO ao<|⟨rfl,λs' hz hk ho hg ht=>?_⟩
 have I1:=I.step st
 have aG:Step c s1 s':=.keep I.ok hz hk ho hg ht
 have I2:=I1.step aG
 have r2':=r2.inv I1 aG
 refine wpAny_assignInOrder_more (bindName_ (fK (c:=pinAt c s'.heap [] [(_,d1)]) (I2.pinned (λ_ h=>nomatch h) λp hp=>by simp at hp;exact ab hp<|(r1.inv I1 aG)) hy r2' λs3 I3=>?_))
 refine wpAny_assignInOrder_more (bindName_ ?_)
 have I4:=I3.fS I2.bs.pins I2.ok.pv
 exact fK I4 hx (I3.frm.held (_,d1) (List.mem_append_left _ (List.mem_cons_self))) λs5 I5=>wpAny_assignInOrder_none (q _ _ _ hP ⟨ow,I5⟩)
theorem Inv.ghost{ow:Ow}{s:Shared}(I:Inv c aa Z ow s)(ha:dU Z "%acc"):Inv c aa (("%acc",.own [])::d5 Z "%acc") (gS ow "%acc" s.heap.objs.size) {s with heap:=s.heap.push {cls:=.type "list",data:=.seq #[]}}:=by
 have I1:=I.alloc ha
 refine ah I1.frm.ns λm hm hv=>⟨I1.ok,I1.oin,I1.bs,I1.frm.kind,I1.frm.glob,I1.frm.bins,I1.frm.loc,I1.frm.locD,⟨m,hm,λy l e=>?_⟩,I1.frm.cnew,I1.frm.cD,I1.frm.cinj,I1.frm.onew,I1.frm.oinj,I1.frm.pL,I1.frm.pC,I1.frm.pO,I1.frm.held⟩
 have e':(if "%acc"=y then some (LV.own [])else find (d5 Z "%acc") y)=some l:=e
 split at e'
 ·rename_i q
  exact rB q<|aC e'<|aJ (.ref s.heap.objs.size) (.inr (.inr rfl)) ⟨_,[],rfl,by unfold gS;exact ab (if_pos rfl) rfl,⟨0,Heap.get?_push_size _ rfl⟩,.nil⟩
 ·exact hv y l e'
noncomputable def jB(ow:Ow)(x:String)(a:Addr):Ow:=λy=>if y=x then some a else if y="%acc" then none else ow y
theorem Inv.rename{ow:Ow}{s:Shared}{x:String}{ds:List D}{a:Addr}(I:Inv c aa Z ow s)(e:find Z "%acc"=some (.own ds))(ea:ow "%acc"=some a)(hn:dU Z x)(jl:dU Z "%acc")(hx:x≠"%acc"):
  Inv c aa (d5 (d5 Z "%acc") x) (jB ow x a) s/\∃vs,PL s.heap a vs.toArray/\aq s.heap (av c (jB ow x a)) vs ds:=by
 have less:∀b,av c (jB ow x a) b->av c ow b:=λb h=>by
  rcases h with h | ⟨y,h⟩
  ·exact .inl h
  ·unfold jB at h
   split at h
   ·exact aC h<| .inr ⟨"%acc",ea⟩
   ·split at h
    ·exact nS h
    ·exact .inr ⟨y,h⟩
 refine cw (lK I e) λa' vs e1 hl rs=>?_
 replace e1:=ea▸e1;obtain rfl:=Option.some.inj e1
 refine ah I.frm.ns λm hm hv=>?_
 have inj:∀y b,ow y=some b->y≠"%acc"->b≠a:=λy b h1 h2 h3=>h2 (I.frm.oinj y "%acc" a (h3▸h1) ea)
 refine⟨⟨I.ok,I.oin,I.bs,I.frm.kind,I.frm.glob,I.frm.bins,I.frm.loc,I.frm.locD,⟨m,hm,λy l el=>?_⟩,I.frm.cnew,I.frm.cD,I.frm.cinj,λy b eb=>?_,λy z b h1 h2=>?_,I.frm.pL,I.frm.pC,λy b eb=>?_,λp hp=>(I.frm.held p hp).less less⟩,vs,hl,rs.less less⟩
 ·rw[jt]at el
  split at el
  ·exact nS el
  rename_i ci
  rw[jt]at el
  split at el
  ·exact nS el
  rename_i hay
  refine ah (hv y l el) λv h1 h2=>aJ v h1 ?_
  have hy:∀z,z≠x->z≠"%acc"->jB ow x a z=ow z:=λz h1 h2=>by unfold jB;refine ab (if_neg h1) ?_;rw[if_neg h2]
  cases l with
  | d d=>exact ag.less h2 less
  | own es=>exact cf h2 λb ws e1 e2 e3 e4=>il b ws e1 ((hy y (Ne.symm ci) (Ne.symm hay)).trans e2) e3 (e4.less less)
  | app z=>
   refine cf h2 λb b' e1 e2 e3 e4=>ah (tL el) λp hp hpe=>?_
   exact il b b' e1 ((hy z (hn p hp z hpe) (jl p hp z hpe)).trans e2) e3 e4
 ·unfold jB at eb
  split at eb
  ·exact aC eb<|I.frm.onew _ _ ea
  ·split at eb
   ·exact nS eb
   ·exact I.frm.onew y b eb
 ·unfold jB at h1 h2
  split at h1<;>split at h2
  ·rename_i q1 q2;refine ab q1 ?_;rw[q2]
  ·split at h2
   ·exact nS h2
   ·obtain rfl:=Option.some.inj h1;rename_i q;exact absurd rfl (inj z a h2 q)
  ·split at h1
   ·exact nS h1
   ·obtain rfl:=Option.some.inj h2;rename_i q;exact absurd rfl (inj y a h1 q)
  ·split at h1<;>split at h2
   ·cases h1
   ·cases h1
   ·exact nS h2
   ·exact I.frm.oinj y z b h1 h2
 ·unfold jB at eb
  split at eb
  ·exact aC eb<|I.frm.pO _ _ ea
  ·split at eb
   ·exact nS eb
   ·exact I.frm.pO y b eb
theorem vY{s:Shared}{ow:Ow}{x:String}{ds:List D}{a:Addr}{A:Around}{Q:Unit->Shared->Prop}{E:Value->Shared->Prop}(I:Inv c aa Z ow s)(e:find Z "%acc"=some (.own ds))(ea:ow "%acc"=some a)(hn:dU Z x)(jl:dU Z "%acc")(hx:x≠"%acc")(hp:cr c aa x)
  (h:∀s' aH,Inv c aa (upd (d5 (d5 Z "%acc") x) x (.own ds)) aH s'->Q () s'):wpAny (model pg c.w) A (storeName aa (Str.ofString x) (.ref a)) Q E s:=by
 refine bR (I.rename e ea hn jl hx) λI' ar=>ah ar λvs hl rs=>?_
 exact p8 (l:=.own ds) I' hp ⟨a,vs,rfl,by unfold jB;exact ab (if_pos rfl) rfl,hl,rs⟩ λs' I2=>h s' _ I2
theorem Inv.freeze{ow:Ow}{s:Shared}{x:String}{ds:List D}(I:Inv c aa Z ow s)(e:find Z x=some (.own ds))(hn:dU Z x):Inv c aa (upd Z x (.d (.list ds))) (λy=>if y=x then none else ow y) s:=by
 refine cw (lK I e) λa vs ea hl rs=>?_
 have less:∀b,av c (λy=>if y=x then none else ow y) b->av c ow b:=λb h=>by
  rcases h with h | ⟨y,h⟩
  ·exact .inl h
  ·have h':(if y=x then none else ow y)=some b:=h
   split at h'
   ·exact nS h'
   ·exact .inr ⟨y,h'⟩
 have nota:¬av c (λy=>if y=x then none else ow y) a:=by
  rintro(h | ⟨y,h⟩)
  ·exact Nat.not_lt.mpr (I.frm.onew _ _ ea).1 (I.oin _ h)
  ·have h':(if y=x then none else ow y)=some a:=h
   split at h'
   ·exact nS h'
   ·rename_i hy;exact hy (I.frm.oinj y x a h' ea)
 refine ah I.frm.ns λm hm hv=>⟨I.ok,I.oin,I.bs,I.frm.kind,I.frm.glob,I.frm.bins,I.frm.loc,I.frm.locD,⟨m,hm,λy l el=>?_⟩,I.frm.cnew,I.frm.cD,I.frm.cinj,λy b eb=>?_,λy z b h1 h2=>?_,I.frm.pL,I.frm.pC,λy b eb=>?_,λp hp=>(I.frm.held p hp).less less⟩
 ·rw[ai]at el
  split at el
  ·rename_i ci
   subst ci
   refine aC el<|ah (hv x _ e) λv h1 ar=>cf ar λa' cu h2 h3 h4 h5=>?_
   replace h3:=ea▸h3;obtain rfl:=Option.some.inj h3
   exact aJ v h1 (by exact ab h2<| .list nota h4 (h5.less less))
  ·rename_i ci
   refine ah (hv y l el) λv h1 h2=>aJ v h1 ?_
   cases l with
   | d d=>exact ag.less h2 less
   | own es=>exact cf h2 λb ws e1 e2 e3 e4=>il b ws e1 (by refine(?_:(if y=x then none else ow y)=_);exact ab (if_neg (Ne.symm ci))<|e2) e3 (e4.less less)
   | app z=>
    refine cf h2 λb b' e1 e2 e3 e4=>ah (tL el) λp hp hpe=>?_
    exact il b b' e1 (by refine(?_:(if z=x then none else ow z)=_);exact ab (if_neg (hn p hp z hpe))<|e2) e3 e4
 ·have eb':(if y=x then none else ow y)=some b:=eb
  split at eb'
  ·exact nS eb'
  ·exact I.frm.onew y b eb'
 ·have h1':(if y=x then none else ow y)=some b:=h1
  have h2':(if z=x then none else ow z)=some b:=h2
  split at h1'<;>split at h2'<;>first | cases h1';done | cases h2';done | exact I.frm.oinj y z b h1' h2'
 ·have eb':(if y=x then none else ow y)=some b:=eb
  split at eb'
  ·exact nS eb'
  ·exact I.frm.pO y b eb'
theorem CY{x:String}{ds:List D}{ss:List Stmt}{P:az->Prop}(e:find Z x=some (.own ds))(hn:dU Z x)(h:bS c n aa (upd Z x (.d (.list ds))) ss P):bS c n aa Z ss P:=
 ⟨λA s Q E ow rm I q=>h.run A s Q E _ rm (I.freeze e hn) q⟩
theorem xe{x y:String}{d:D}(h:dU Z x):dU (upd Z y (.d d)) x:=by
 induction Z with
 | nil=>intro p hp z e;simp[upd]at hp;subst hp;cases e
 | cons q r ih=>
  have aw:=q
  intro p hp z e
  dsimp only[upd]at hp
  split at hp
  ·rcases List.mem_cons.mp hp with e' | hp
   ·subst e';cases e
   ·exact h p (List.mem_cons_of_mem _ hp) z e
  ·rcases List.mem_cons.mp hp with e' | hp
   ·subst e';exact h _ List.mem_cons_self z e
   ·exact ih (λp hp=>h p (List.mem_cons_of_mem _ hp)) p hp z e
theorem p9{x y:String}(h:dU Z x):dU (d5 Z y) x:=by
 induction Z with
 | nil=>exact h
 | cons q r ih=>
  have aw:=q
  have hr:dU r x:=λp hp=>h p (List.mem_cons_of_mem _ hp)
  dsimp only[d5]
  refine bq (λ_=>?_) λ_=>?_
  ·exact ih hr
  ·intro p hp z e
   rcases List.mem_cons.mp hp with e' | hp
   ·subst e';exact h _ List.mem_cons_self z e
   ·exact ih hr p hp z e
theorem pU{x y:String}{ds:List D}(h:dU Z x):dU ((y,.own ds)::Z) x:=λp hp z e=>by
 rcases List.mem_cons.mp hp with e' | hp
 ·subst e';cases e
 ·exact h p hp z e
theorem xF{ow:Ow}{s:Shared}{A:Around}{Q:Value->Shared->Prop}{E:Value->Shared->Prop}{p:Pos}(I:Inv c aa Z ow s)(ha:dU Z "%acc")
  (h:∀a s',Inv c aa (("%acc",.own [])::d5 Z "%acc") (gS ow "%acc" a) s'->Q (.ref a) s'):wpAny (model pg c.w) A (eval (.List [] p) aa) Q E s:=by
 refine List_ (spliced_nil ?_)
 exact wpAny_newObj_type (h _ _ (I.ghost ha)) (by size_fits)
theorem FM{x y z:String}{px py pz tp fy lp pos:Pos}{k k':Nat}{e f:Expr}{d1 d3:D}{P:az->Prop}(hx:cr c aa x)(hy:cr c aa y)(hz:cr c aa z)
  (hyn:dU Z y) (han:dU Z "%acc") (ha0:find Z "%acc"=none) (au:z≠"%acc"/\y≠"%acc")
  (h1:Ev c n aa Z e (.d d1)) (h3:∀c',eP c c'->Ev c' n aa (("%acc",.own [])::d5 Z "%acc") f (.d d3))
  (hP:P (.next (upd (upd (upd Z z (.d d3)) y (.own [])) x (.d d1))))
  (hw:swappedStores [.Tuple [.Name (Str.ofString x) px,.Name (Str.ofString y) py,.Name (Str.ofString z) pz] k tp] (.Tuple [e,.List [] lp,f] k' fy) aa=pure (some [Str.ofString x,Str.ofString y,Str.ofString z]))
  (he:starEach [e,.List [] lp,f] aa=[(false,eval e aa),(false,eval (.List [] lp) aa),(false,eval f aa)]:=by rfl)
  (hs:swapsWithSole [.Tuple [.Name (Str.ofString x) px,.Name (Str.ofString y) py,.Name (Str.ofString z) pz] k tp] (.Tuple [e,.List [] lp,f] k' fy) pos.line aa=pure false:=by rfl):
  bY c n aa Z (.Assign [.Tuple [.Name (Str.ofString x) px,.Name (Str.ofString y) py,.Name (Str.ofString z) pz] k tp] (.Tuple [e,.List [] lp,f] k' fy) pos) P:=by
 refine⟨?_⟩
 intro A s Q E ow rm I q
 refine Assign_Tuple_swapped (names:=[Str.ofString x,Str.ofString y,Str.ofString z]) ?_ hs hw
 refine sf rm.h (Nat.le_add_left _ _)<|ab he<|Calls.spliced_cons (h1.run A s _ E ow rm I λv1 s1 r1 al=>?_)
 have I1:=I.step al
 have I1':=I1.pinned (fp:=[]) (hl:=[(v1,d1)]) (λ_ h=>nomatch h) λp hp=>by simp at hp;exact ab hp r1
 refine Calls.spliced_cons (xF (c:=pinAt c s1.heap [] [(v1,d1)]) I1' han λa s2 I2=>?_)
 refine Calls.spliced_cons ((h3 _ (eP.pinAt ..)).run A s2 _ E _ rm I2 λv3 s3 r3 cI=>Calls.spliced_nil ⟨rfl,λs' cj hk ho hg ht=>?_⟩)
 have I3:=I2.step cI
 have iJ:Step (pinAt c s1.heap [] [(v1,d1)]) s3 s':=.keep I3.ok cj hk ho hg ht
 refine wpAny_assignInOrder_more (bindName_ (fK (c:=pinAt c s1.heap [] [(v1,d1)]) (I3.step iJ) hz (r3.inv I3 iJ) λs5 I5=>?_))
 refine wpAny_assignInOrder_more (bindName_ (vY (c:=pinAt c s1.heap [] [(v1,d1)]) (ds:=[]) I5 ?_ (by unfold gS;exact ab (if_pos rfl) rfl) (xe (pU (p9 hyn))) (xe (pU (p9 han))) au.2 hy λs6 ow6 I6=>?_))
 ·rw[ai,if_neg au.1];rfl
 refine wpAny_assignInOrder_more (bindName_ ?_)
 refine fK (I6.fS I1.bs.pins I1.ok.pv) hx (I6.frm.held (v1,d1) (List.mem_append_left _ (List.mem_cons_self))) λs7 I7=>wpAny_assignInOrder_none (q _ _ _ hP ⟨ow6,I7.sub λw l hl=>?_⟩)
 rw[ai,ai,ai]at hl
 rw[ai,ai,jt,jt,ai]
 split at hl
 ·rename_i h;exact ab (if_pos h) hl
 ·rename_i h1
  refine ab (if_neg h1) ?_
  split at hl
  ·rename_i h;rw[if_pos h];exact hl
  ·rename_i h2
   refine ab (if_neg h2)<|bq (λ_=>?_) λ_=>?_
   ·rename_i h;exact absurd h h2
   ·refine bq (λ_=>?_) λ_=>?_
    ·rename_i h
     cases h
     replace hl:=ha0▸(if_neg au.1)▸hl;exact nS hl
    ·rename_i h
     split at hl
     ·rename_i h';rw[if_pos h'];exact hl
     ·rename_i h'
      rw[if_neg h']
      show(if "%acc"=w then _ else find (d5 Z "%acc") w)=_
      refine ab (if_neg h) ?_;rw[jt,if_neg h];exact hl
theorem FN{x y z:String}{px py pz tp fy lp pos:Pos}{k k':Nat}{e f:Expr}{d1 d2:D}{P:az->Prop}(hx:cr c aa x)(hy:cr c aa y)(hz:cr c aa z)
  (hzn:dU Z z) (han:dU Z "%acc") (ha0:find Z "%acc"=none) (au:z≠"%acc")
  (h1:Ev c n aa Z e (.d d1)) (h2:∀c',eP c c'->Ev c' n aa Z f (.d d2))
  (hP:P (.next (upd (upd (upd Z z (.own [])) y (.d d2)) x (.d d1))))
  (hw:swappedStores [.Tuple [.Name (Str.ofString x) px,.Name (Str.ofString y) py,.Name (Str.ofString z) pz] k tp] (.Tuple [e,f,.List [] lp] k' fy) aa=pure (some [Str.ofString x,Str.ofString y,Str.ofString z]))
  (he:starEach [e,f,.List [] lp] aa=[(false,eval e aa),(false,eval f aa),(false,eval (.List [] lp) aa)]:=by rfl)
  (hs:swapsWithSole [.Tuple [.Name (Str.ofString x) px,.Name (Str.ofString y) py,.Name (Str.ofString z) pz] k tp] (.Tuple [e,f,.List [] lp] k' fy) pos.line aa=pure false:=by rfl):
  bY c n aa Z (.Assign [.Tuple [.Name (Str.ofString x) px,.Name (Str.ofString y) py,.Name (Str.ofString z) pz] k tp] (.Tuple [e,f,.List [] lp] k' fy) pos) P:=by
 refine⟨?_⟩
 intro A s Q E ow rm I q
 refine Assign_Tuple_swapped (names:=[Str.ofString x,Str.ofString y,Str.ofString z]) ?_ hs hw
 refine sf rm.h (Nat.le_add_left _ _)<|ab he<|Calls.spliced_cons (h1.run A s _ E ow rm I λv1 s1 r1 al=>?_)
 have I1:=I.step al
 have I1':=I1.pinned (fp:=[]) (hl:=[(v1,d1)]) (λ_ h=>nomatch h) λp hp=>by simp at hp;subst hp;exact r1
 refine Calls.spliced_cons ((h2 _ (eP.pinAt ..)).run A s1 _ E _ rm I1' λv2 s2 r2 aG=>?_)
 have I2:=I1'.step aG
 have I2':=I2.pinned (fp:=[]) (hl:=[(v2,d2)]) (λ_ h=>nomatch h) λp hp=>by simp at hp;subst hp;exact r2
 refine Calls.spliced_cons (xF (c:=pinAt (pinAt c s1.heap [] [(v1,d1)]) s2.heap [] [(v2,d2)]) I2' han λa s3 I3=>Calls.spliced_nil ⟨rfl,λs' cj hk ho hg ht=>?_⟩)
 have I4:=I3.step (.keep I3.ok cj hk ho hg ht:Step (pinAt (pinAt c s1.heap [] [(v1,d1)]) s2.heap [] [(v2,d2)]) s3 s')
 refine wpAny_assignInOrder_more (bindName_ (vY (c:=pinAt (pinAt c s1.heap [] [(v1,d1)]) s2.heap [] [(v2,d2)]) (ds:=[]) I4 rfl (by unfold gS;exact ab (if_pos rfl) rfl) (pU (p9 hzn)) (pU (p9 han)) au hz λs5 ow5 I5=>?_))
 refine wpAny_assignInOrder_more (bindName_ ?_)
 have I5':=I5.fS I2.bs.pins I2.ok.pv
 refine fK (c:=pinAt c s1.heap [] [(v1,d1)]) I5' hy (I5.frm.held (v2,d2) (List.mem_append_left _ (List.mem_cons_self))) λs6 I6=>wpAny_assignInOrder_more (bindName_ ?_)
 refine fK (I6.fS I1.bs.pins I1.ok.pv) hx (I6.frm.held (v1,d1) (List.mem_append_left _ (List.mem_cons_self))) λs7 I7=>wpAny_assignInOrder_none (q _ _ _ hP ⟨ow5,I7.sub λw l hl=>?_⟩)
 rw[ai,ai,ai]at hl
 rw[ai,ai,ai,jt,jt]
 split at hl
 ·rename_i h;exact ab (if_pos h) hl
 ·rename_i h1
  refine ab (if_neg h1) ?_
  split at hl
  ·rename_i h;exact ab (if_pos h) hl
  ·rename_i h2
   refine ab (if_neg h2) ?_
   split at hl
   ·rename_i h;rw[if_pos h];exact hl
   ·rename_i h3
    refine ab (if_neg h3)<|ab (if_neg h3)<|bq (λ_=>?_) λ_=>?_
    ·rename_i h
     subst h
     replace hl:=ha0▸hl;exact nS hl
    ·rename_i h
     show(if "%acc"=w then _ else find (d5 Z "%acc") w)=_
     refine ab (if_neg h) ?_;rw[jt,if_neg h];exact hl
end
end
section
section
variable {c:Cx} {n:Nat} {aa:Env} {Z:Ctx}
theorem vE{ow:Ow}{s:Shared}(I:Inv c aa Z ow s):interactive aa=false:=by
 dsimp only[interactive]
 refine ab I.frm.kind ?_;rfl
theorem iX{ow:Ow}{s:Shared}{x:String}{l:LV}{p:Pos}{A:Around}{Q:Value->Shared->Prop}{E:Value->Shared->Prop}(I:Inv c aa Z ow s)(e:find Z x=some l)(rm:bh n A)(h:∀v,ig c ow s.heap x v l->Q v s)(hg:eu x:=by unfold eu;decide+kernel):
  wpAny (model pg c.w) A (eval (.Name (Str.ofString x) p) aa) Q E s:=by
 refine ah I.frm.ns λm hm hv=>ah (hv x l e) λv h1 h2=>wpAny_Name ?_ hg.2.1
 have q:=h v h2
 rcases h1 with⟨k,e⟩ | ⟨k | k,cl,e1,e2⟩ | k
 ·exact wpAny_loadName_local I.frm.kind k hm e q
 ·exact wpAny_loadName_cell I.frm.kind k e1 e2 q
 ·exact wpAny_loadName_free I.frm.kind k e1 e2 q hg.2.2
 ·exact absurd k hg.1
theorem FP{x:String}{xp ap pos pos':Pos}{e:Expr}{ds:List D}{d:D}{P:az->Prop}(h0:find Z x=some (.own ds))(h1:Ev c n aa Z e (.d d))(hz:ds.length<=1000000)(h2:P (.next (upd Z x (.own (ds++[d])))))
  (hs:starEach [e] aa=[(false,eval e aa)]:=by rfl) (hl:(ap.endLine==pos.line)=true:=by rfl) (hg:eu x:=by unfold eu;decide+kernel) (hsw:swapsWith (.Call (.Attribute (.Name (Str.ofString x) xp) "append" ap) [e] [] pos) none pos'.line aa=pure false:=by rfl):
  bY c n aa Z (.Expr (.Call (.Attribute (.Name (Str.ofString x) xp) "append" ap) [e] [] pos) pos') P:=by
 refine⟨?_⟩
 intro A s Q E ow rm I q
 refine wpAny_Expr_any ?_ (vE I) hsw
 refine wpAny_Call_method_late (trees:=backTo pos (starEach [e] aa)) rfl (by refine ab hs ?_;rfl) hl rfl (iX I h0 rm (λv r=>?_) hg)
 refine cf r λa vs am ea ob4 rs=>ab am ?_;obtain⟨k,fC⟩:=ob4
 refine li ("list") ("list.append") F.plainAttrs_list F.slot_list_append F.type_list_append ⟨_,fC,rfl⟩ (λb q=>by cases q;exact aJ _ fC rfl)<|ab hs<|Calls.callWith_builtin rfl (Calls.evalArgs_plain (Calls.spliced_cons (h1.run A s _ E ow rm I λv s1 rv st=>Calls.spliced_nil ?_)))
 exact pY (I.step st) h0 ea rv hz λs' I'=>q _ _ _ h2 ⟨ow,I'⟩
theorem yJ{l:LV}{ds:List D}{i:Int}(hl:dh l ds)(hz:ds.length * i.toNat<=100000)(hlo:-1000000<=i)(hhi:i<=1000000):be c n (binaryOp .Mult) l (.d (.int i)) (.d (.list (List.replicate i.toNat ds).flatten)):=by
 intro aa Z A s Q E ow va vb rm I ra rb h
 refine cw (ra.eq hl) λa vs am dH rs=>ab am ?_;obtain⟨k,e⟩:=dH
 refine ag.bf rb λu=>?_
 have aV:=rs.length
 have reps:∀m:Nat,aq s.heap (av c ow) (List.replicate m vs).flatten (List.replicate m ds).flatten:=λm=>by
  induction m with
  | zero=>exact .nil
  | succ m ih=>exact rs.append ih
 refine wpAny_binaryOp_repeat_ref (T:="list") (U:="int") (by decide) ⟨_,e,rfl⟩ (λs'=>typeIs_int s' i u) noFill_list_mul F.fills_int_mul F.slot_int_rmul repeat_list F.slot_int_index.lookup
  (call_meets F.slot_int_rmul (typeIs_int s i u) F.entry_int_rmul (F.args_int_rmul_2 _ _) (int___rmul___int_list i u a vs.toArray k)
   ⟨e,rfl,⟨_,e,rfl⟩,call_meets F.slot_list_mul ⟨_,e,rfl⟩ F.entry_list_mul (F.args_list_mul_2 _ _)
    (AutoListH.list___mul___list_int_3 a vs.toArray k i u (by simp[Builtin.List.listFitsIndex];lia) (by refine ab List.size_toArray<|ab aV ?_;lia) (by refine ab List.size_toArray<|ab aV ?_;simp[Builtin.List.listTooLong,sizeLine_eq];lia))
    ⟨e,?_⟩⟩)
 refine h _ _ (om I (reps i.toNat) ?_) (.push I.ok _ _)
 rw[listMul_foldl_if]
theorem F4{k:Nat}:be c n (binaryOp .Mult) (.d (sd [k])) (.d (.int 2)) (.d (sd [k,k])):=by
 intro aa Z A s Q E ow va vb rm I ra rb h
 refine ag.bw ra λt=>ag.bf rb λu=>?_
 exact wpAny_with_toks (Nat.le_refl _) (SB.mul (mulOk_of 1 2 (Nat.le_of_eq (dq [k])) (by decide) (by decide) (by decide) (by decide)) λt' q ht=>h _ _ (.str _ _) (.tok I.ok _ ht))
theorem Dg{x:List Nat}:dm c n (.builtin "str.isalnum") [.d (sd x)] (.d (.bool (Txt.isalnum (S x)))):=by
 intro aa Z A s Q E ow vs rm I rs h
 refine aT.bn rs λ_ _ r ao=>aT.bO ao<|ag.bw r λt=>?_
 exact SC.isalnum (h _ _ (.bool _) (.refl _ _))
theorem Bw{x y:List Nat}:dm c n (.builtin "str.startswith") [.d (sd x),.d (sd y)] (.d (.bool (Txt.startswith (S x) (S y)))):=by
 intro aa Z A s Q E ow vs rm I rs h
 refine aT.bn rs λ_ _ r ao=>aT.bn ao λ_ _ r2 ao=>aT.bO ao<|ag.bw r λt=>ag.bw r2 λu=>?_
 exact SC.startswith (h _ _ (.bool _) (.refl _ _))
end
end
section
theorem xM{c:Cx}{sc0 sc:Scope}{aa:Env}{elt:Expr}{gens:List Comprehension}{pos p:Pos}{t:Str}{line:Nat}(eo:bI c sc0 aa)(hf:sc0.kind=.function)(hk:sc0.names.lookup t=some .local)
  (hr:(p.line==pos.line&&!(sc.names.any λ(n,k)=>n==t&&(k==.local||k==.cell)))=true):swapsWith (.ListComp elt gens sc pos) (some (.Name t p)) line aa=pure true:=by
 have e:swapsWith (.ListComp elt gens sc pos) (some (.Name t p)) line aa=pure (aa.blockKind==.function&&aa.kindOf t==some .local&&p.line==pos.line&&!(sc.names.any λ(n,k)=>n==t&&(k==.local||k==.cell))):=rfl
 refine ab e ?_
 have h1:aa.blockKind=.function:=by
  have:aa.scope.kind=.function:=by exact ab eo.sc hf
  unfold Env.blockKind
  refine ab this ?_;rfl
 refine ab h1<|ab (eo.kind hk) ?_;rw[Bool.and_assoc,hr];rfl
noncomputable abbrev aj(r:List Nat):D:=.list (r.map λf:Nat=>.int (f:Int))
noncomputable abbrev hU(r:List (List Nat)):D:=.list (r.map sd)
section
variable {c:Cx} {n:Nat} {aa:Env} {Z:Ctx}
theorem lC{x:Str}{l:List Nat}{k:Nat}{pos:Pos}(h:x=S l:=by decide+kernel):Ev c n aa Z (.Constant (.str x) k pos) (.d (sd l)):=by exact ab h oP
theorem EU{value:Expr}{lo hi:Option Expr}{p pos:Pos}{a:LV}{ds r:List D}{l h:Option Int}(h1:Ev c n aa Z value a)(h2:Pt c n aa Z lo l)(h3:Pt c n aa Z hi h)(ha:dh a ds)(hz:ds.length<=1000000)(hr:cut ds l h=r):
  Ev c n aa Z (.Subscript value (.Slice lo hi none p) pos) (.d (.list r)):=hr▸vK h1 h2 h3 ha hz
theorem xx{value:Expr}{lo hi:Option Expr}{p pos:Pos}{x r:List Nat}{l h:Option Int}(h1:Ev c n aa Z value (.d (sd x)))(h2:Pt c n aa Z lo l)(h3:Pt c n aa Z hi h)(hz:x.length<=1000000)(hr:cut x l h=r):
  Ev c n aa Z (.Subscript value (.Slice lo hi none p) pos) (.d (sd r)):=hr▸vS h1 h2 h3 hz
theorem qW{k:Nat}{p pos:Pos}:Ev c n aa Z (.UnaryOp .USub (.Constant (.int 1) k p) pos) (.d (.int (-1))):=ye gP (zz 1)
end
noncomputable def eL(bg:List Nat)(f:Nat):List Nat:=[bg.getD f 0]
noncomputable def gM(row bg:List Nat):List Nat:=bT [46] (row.dropLast.map (eL bg)++[[bg.getD (row.getLastD 0) 0,bg.getD (row.getLastD 0) 0]]++List.replicate (4 - row.length) [65])
theorem xD:cV 214 (fD "_law_doubled" "_law_doubled" (aA 35) .none .none eM 213) (bu (aA 35)):=
 ⟨λP=>⟨_,rfl,rfl⟩,rfl,rfl,⟨213,rfl,by decide+kernel⟩,rfl,rfl,rfl,rfl,rfl⟩
theorem IB{c:Cx}{n:Nat}{bg:List Nat}{f:Nat}(h:f < bg.length)(hz:bg.length<=1000):Itm c n (.d (sd bg)) (.d (.int (f:Int))) (.d (sd (eL bg f))):=by
 have ix:dJ bg.length (f:Int)=f:=by unfold dJ;exact Int.toNat_natCast f
 refine us (by lia) (Int.ofNat_le.mpr ‹_›) (Nat.le_trans ‹_› (Nat.le_add_left _ _))<|ab ix<|ab List.getD_eq_getElem?_getD<|ab (List.getElem?_eq_getElem h) ?_;rfl
theorem JF(k:Nat)(l:List Nat):(∀x∈l,x<=k)->l.sum<=l.length * k:=by
 induction l with
 | nil=>
  intro _
  exact Nat.zero_le _
 | cons x r ih=>
  intro h
  have h1:=ih λy hy=>h y (List.mem_cons_of_mem _ hy)
  have h2:=h x List.mem_cons_self
  refine ab List.sum_cons<|ab List.length_cons ?_;rw[Nat.succ_mul];lia
theorem Dx{row bg:List Nat}(h0:row≠[])(h4:row.length<=4)(h1:∀f∈row,f < bg.length)(h2:bg.length<=1000):Fn 2 214 [aj row,sd bg] (sd (gM row bg)):=by
 refine qV xD (names:=["row","alphabet"]) (qX "row" "alphabet") rfl (of_decide_eq_true rfl) (by decide+kernel) λc aa tz eo _=>?_
 have aV:=eo.kind (x:="len") (k:=.globalImplicit) (by decide+kernel)
 have hpos:0 < row.length:=List.length_pos_iff.mpr h0
 refine g7<|wY (sc0:=cU (aA 35)) (an:=[("alphabet",sd bg)]) (ds:=row.map λf:Nat=>.int (f:Int)) (aB:=(row.filter λ_=>true).map λf=>sd (eL bg f)) eo.c (kM ["alphabet"] ⟨rfl,trivial⟩ (by decide+kernel)) ?_ ?_ (eo.place (.inl (by decide+kernel))) (xM eo rfl (by decide+kernel) (by decide+kernel)) ?_
 ·exact uI (bK rfl) (tI _)
 ·refine qd (x:="figure") row (λf:Nat=>.int (f:Int)) (λ_=>true) (λf=>sd (eL bg f)) (kM (Z:=[("alphabet",.d (sd bg))]) (sc0:=cU (aA 35)) ["alphabet"] ⟨rfl,trivial⟩ (by decide+kernel)) (Nat.le_trans ‹_› (Nat.le_add_left _ _)) (.inl (by decide+kernel)) (of_decide_eq_true rfl) λc' bx f lk bV hf=>⟨tX,λ_=>?_⟩
  exact lF (bK rfl) (bK rfl) (IB (h1 f hf) h2)
 ·refine ab (List.filter_eq_self.mpr (λ_ _=>rfl))<|kH<|jX (l:=.d (sd (gM row bg))) ?_ (.inl rfl) rfl
  generalize hl:row.getLastD 0=last
  have hlast:last < bg.length:=by
   refine rB hl<|ab List.getLastD_eq_getLast?<|ab List.getLast?_eq_getElem?<|ab (List.getElem?_eq_getElem (Nat.sub_lt ‹_› (Nat.le_of_ble_eq_true rfl))) ?_
   exact h1 _ (List.getElem_mem _)
  obtain⟨parts,hparts⟩:∃parts:List (List Nat),parts=row.dropLast.map (eL bg)++[[bg.getD last 0,bg.getD last 0]]++List.replicate (4 - row.length) [65]:=⟨_,rfl⟩
  have hp:gM row bg=bT [46] parts:=by unfold gM;refine ab hl ?_;rw[hparts]
  refine ab hp ?_
  have hdl:row.dropLast.length<=3:=by exact ab List.length_dropLast<|Nat.sub_le_of_le_add ‹_›
  have dt:parts.length<=8:=by simp only[hparts,List.length_append,List.length_map,List.length_replicate,List.length_cons,List.length_nil];lia
  refine qx (a:=.d (sd [46])) (ls:=[.d (hU parts)]) (lC (l:=[46])) F.plainAttrs_str F.slot_str_join F.type_str_join nj ?_ (yL (sep:=[46]) (xs:=parts) (fm (parts.map sd)) ?_)
  ·refine gq ?_ gt
   have e:hU parts=.list ((((row.map λf=>sd (eL bg f)).take (row.length - 1))++[sd [bg.getD last 0,bg.getD last 0]])++(List.replicate (4 - row.length) [sd [65]]).flatten):=by
    show D.list (parts.map sd)=_
    congr 1
    simp only[hparts,List.map_append,List.map_cons,List.map_nil,List.map_map,List.map_replicate]
    congr 1
    ·congr 1
     refine ab List.dropLast_eq_take<|rB List.map_take ?_;rfl
    ·induction (4 - row.length)with
     | zero=>rfl
     | succ k ih=>refine ab List.replicate_succ<|ab List.replicate_succ<|ab List.flatten_cons<|rB ih ?_;rfl
   refine ab e<|ju (a:=.d (.list (((row.map λf=>sd (eL bg f)).take (row.length - 1))++[sd [bg.getD last 0,bg.getD last 0]]))) (b:=.d (.list (List.replicate (4 - row.length) [sd [65]]).flatten)) ?_ ?_ (sU (fm _) (fm _) ?_)
   ·refine ju (a:=.d (.list ((row.map λf=>sd (eL bg f)).take (row.length - 1)))) (b:=.d (.list [sd [bg.getD last 0,bg.getD last 0]])) ?_ ?_ (sU (fm _) (fm _) ?_)
    ·refine EU (ds:=row.map λf=>sd (eL bg f)) (bK rfl) t5 (lz qW) (fm _) (by rw[List.length_map];lia) ?_
     have:=we (row.map λf=>sd (eL bg f)) 1 (Nat.le_refl _)
     rw[List.length_map]at this;exact this
    ·refine oD (ds:=[sd [bg.getD last 0,bg.getD last 0]]) ?_ (Nat.succ_pos _)
     refine gq ?_ gt
     refine ju (a:=.d (sd [bg.getD last 0])) (b:=.d (.int 2)) ?_ gP F4
     refine lF (a:=.d (.list (row.map λf=>sd (eL bg f)))) (i:=.d (.int (-1))) (bK rfl) qW (oB (fm _) (by rw[List.length_map];lia) (Int.natCast_nonneg _) (by rw[List.length_map];lia) ?_)
     have ix:dJ (row.map λf=>sd (eL bg f)).length (-1)=row.length - 1:=by rw[List.length_map];unfold dJ;lia
     refine ab ix<|ab List.getElem?_map<|rB List.getLast?_eq_getElem? ?_
     have:row.getLast?=some last:=by
      rw[List.getLastD_eq_getLast?]at hl
      cases hq:row.getLast? with
      | none=>rw[List.getLast?_eq_none_iff]at hq;exact absurd hq h0
      | some z=>rw[hq]at hl;simp at hl;exact ab hl rfl
     refine ab this ?_;rfl
    ·simp;exact Nat.le_trans ‹_› (Nat.le_add_left _ _)
   ·have ht:(4 - row.length:Nat)=(4 - (row.length:Int)).toNat:=by lia
    refine ab ht<|ju (a:=.d (.list [sd [65]])) (b:=.d (.int (4 - (row.length:Int)))) ?_ ?_ (yJ (fm _) (by simp;lia) (by lia) (by lia))
    ·exact oD (ds:=[sd [65]]) (gq lC gt) (by trivial)
    ·refine ju (a:=.d (.int 4)) (b:=.d (.int (row.length:Int))) gP ?_ (zy _ _)
     have:=so (c:=c) (n:=1) (fm (row.map λf:Nat=>D.int (f:Int))) (by rw[List.length_map];lia)
     rw[List.length_map]at this
     exact ot oq aV (gq (bK rfl) gt) this
   ·simp;lia
  ·have ie:∀x∈parts.map (·.length),x<=2:=by
    intro x hx
    simp only[hparts,List.map_append,List.map_map,List.mem_append,List.mem_map,List.mem_replicate,List.mem_singleton,List.map_cons,List.map_nil]at hx
    rcases hx with(⟨f,_,rfl⟩ | rfl) | ⟨y,⟨_,rfl⟩,rfl⟩<;>simp[eL]
   have:=JF 2 _ ie
   rw[List.length_map]at this
   simp only[List.length_cons,List.length_nil]
   lia
end
theorem yn{c:Cx}{sc0:Scope}{aa:Env}(eo:bI c sc0 aa)(hf:sc0.kind=.function):aa.blockKind=.function:=by
 have:aa.scope.kind=.function:=by exact ab eo.sc hf
 unfold Env.blockKind
 refine ab this ?_;rfl
noncomputable def bP:Expr->Bool
 | .Starred ..=>true
 | _=>false
theorem xN{c:Cx}{sc0:Scope}{aa:Env}{x y:Str}{px py tp fy:Pos}{k k':Nat}{e f:Expr}(eo:bI c sc0 aa)(hf:sc0.kind=.function)(hx:sc0.names.lookup x=some .local)(hy:sc0.names.lookup y=some .local)(hl:(py.line==px.line)=true)(dj:(bP e||bP f)=false)(au:(y==x)=false)
  (h1:(foldedForSure 8 e&&foldedForSure 8 f)=false) (h2:(constantsAlone 8 e&&constantsAlone 8 f)=false):
  swappedStores [.Tuple [.Name x px,.Name y py] k tp] (.Tuple [e,f] k' fy) aa=pure (some [x,y]):=by
 have kx:=eo.kind hx
 have ky:=eo.kind hy
 have s1:([e,f].any λ| .Starred ..=>true | _=>false)=false:=by
  have st:∀e:Expr,(match e with | .Starred ..=>true | _=>false)=bP e:=λe=>by cases e<;>rfl
  refine ab List.any_cons<|ab List.any_cons<|ab List.any_nil ?_
  simp only[st,Bool.or_false]
  exact dj
 have fC:py.line=px.line:=by simpa using hl
 have pos1:∀(n:Str) (p:Pos),(Expr.Name n p).pos=p:=λ_ _=>rfl
 dsimp only[swappedStores]
 refine(if_neg ?_).trans ((if_neg ?_).trans ?_)
 ·simp[(yn eo hf)]
 ·exact ne_true_of_eq_false s1
 refine(if_neg ?_).trans ((if_neg ?_).trans ((if_neg ?_).trans ?_))
 ·simp[kx,ky,fC,pos1,List.eraseDups_cons,(by simpa using au:y≠x)]
 ·simpa using h1
 ·simpa using h2
 ·simp[kx,ky,fC,pos1]
theorem Fx{c:Cx}{sc0:Scope}{aa:Env}{x y z:Str}{px py pz tp fy:Pos}{k k':Nat}{e f g:Expr}(eo:bI c sc0 aa)(hf:sc0.kind=.function)(hx:sc0.names.lookup x=some .local)(hy:sc0.names.lookup y=some .local)(hz:sc0.names.lookup z=some .local)
  (hl:(py.line==px.line&&pz.line==px.line)=true) (dj:(bP e||(bP f||bP g))=false) (au:(y==x||z==x||z==y)=false)
  (h1:(foldedForSure 8 e&&(foldedForSure 8 f&&foldedForSure 8 g))=false) (h2:(constantsAlone 8 e&&(constantsAlone 8 f&&constantsAlone 8 g))=false):
  swappedStores [.Tuple [.Name x px,.Name y py,.Name z pz] k tp] (.Tuple [e,f,g] k' fy) aa=pure (some [x,y,z]):=by
 have kx:=eo.kind hx
 have ky:=eo.kind hy
 have kz:=eo.kind hz
 have st:∀e:Expr,(match e with | .Starred ..=>true | _=>false)=bP e:=λe=>by cases e<;>rfl
 have s1:([e,f,g].any λ| .Starred ..=>true | _=>false)=false:=by
  refine ab List.any_cons<|ab List.any_cons<|ab List.any_cons<|ab List.any_nil ?_
  simp only[st,Bool.or_false]
  exact dj
 have eN:py.line=px.line:=by rw[Bool.and_eq_true]at hl;simpa using hl.1
 have eY:pz.line=px.line:=by rw[Bool.and_eq_true]at hl;simpa using hl.2
 rw[Bool.or_eq_false_iff,Bool.or_eq_false_iff]at au
 have n2:z≠x:=by simpa using au.1.2
 have pos1:∀(n:Str) (p:Pos),(Expr.Name n p).pos=p:=λ_ _=>rfl
 dsimp only[swappedStores]
 refine(if_neg ?_).trans ((if_neg ?_).trans ?_)
 ·simp[(yn eo hf)]
 ·exact ne_true_of_eq_false s1
 refine(if_neg ?_).trans ((if_neg ?_).trans ((if_neg ?_).trans ?_))
 ·simp[kx,ky,kz,eN,eY,pos1,List.eraseDups_cons,(by simpa using au.1.1:y≠x),n2,(by simpa using au.2:z≠y)]
 ·simpa using h1
 ·simpa using h2
 ·simp[kx,ky,kz,eN,eY,pos1]
noncomputable def pd:Option Nat->D
 | none=>.none
 | some x=>sd [x]
noncomputable def cB(inner:List Nat)(k:Nat)(special:List Nat):Option Nat:=
 match inner[k]? with
 | none=>none
 | some x=>
  if x=92 then(match inner[k+1]? with
   | none=>none
   | some b=>if Txt.isalnum (S [b])then none else some b)
  else if x∈special then none else some x
theorem take_one:∀(l:List Nat) (k:Nat),(l.drop k).take 1=(l[k]?).toList
 | [],k=>by simp
 | x::r,0=>by rfl
 | x::r,k+1=>by exact take_one r k
theorem zY:cV 197 (fD "_law_sign" "_law_sign" (aA 32) .none .none eM 196) (bu (aA 32)):=
 ⟨λP=>⟨_,rfl,rfl⟩,rfl,rfl,⟨196,rfl,by decide+kernel⟩,rfl,rfl,rfl,rfl,rfl⟩
theorem IQ{inner special:List Nat}{k:Nat}(h1:inner.length<=1000)(h2:k<=1000)(h3:special.length<=1000):Fn 2 197 [sd inner,.int (k:Int),sd special] (pd (cB inner k special)):=by
 refine qV zY (names:=["inner","k","special"]) (ny "inner" "k" "special") rfl (by decide) (by decide+kernel) λc aa tz eo _=>g7<|yE (x:="sign") (y:="behind") (d1:=sd (inner[k]?).toList) (d2:=sd (inner[k+1]?).toList) (eo.place (.inl (by decide+kernel))) (eo.place (.inl (by decide+kernel))) ?_ ?_ ?_ (xN eo rfl (by decide+kernel) (by decide+kernel) (by decide+kernel) rfl (by decide+kernel) rfl rfl)
 ·refine xx (x:=inner) (l:=some (k:Int)) (h:=some ((k+1:Nat):Int)) (bK rfl) (lz (bK rfl)) (lz ?_) (by lia) ?_
  ·exact ju (a:=.d (.int (k:Int))) (b:=.d (.int 1)) (bK rfl) gP (qF _ _)
  ·rw[lH,show k+1 - k=1 by lia,take_one]
 ·refine xx (x:=inner) (l:=some ((k+1:Nat):Int)) (h:=some ((k+2:Nat):Int)) (bK rfl) (lz ?_) (lz ?_) (by lia) ?_
  ·exact ju (a:=.d (.int (k:Int))) (b:=.d (.int 1)) (bK rfl) gP (qF _ _)
  ·exact ju (a:=.d (.int (k:Int))) (b:=.d (.int 2)) (bK rfl) gP (qF _ _)
  ·rw[lH,show k+2 - (k+1)=1 by lia,take_one]
 ·refine g7<|nF (a:=(inner[k]?).toList==[92]) ?_ (λha=>?_) (λha=>?_)
  ·exact i5 (a:=.d (sd (inner[k]?).toList)) (b:=.d (sd [92])) (bK rfl) lC (mN _ _)
  ·have hk:inner[k]? =some 92:=by
    cases h:inner[k]? with
    | none=>rw[h]at ha;exact fT ha
    | some x=>rw[h]at ha;simp at ha;exact ab ha rfl
   refine kH<|jX (l:=.d (pd (cB inner k special))) ?_ (.inl rfl) rfl
   cases hb:inner[k+1]? with
   | none=>
    have hr:cB inner k special=none:=by unfold cB;rw[hk];simp only[if_true,hb]
    refine ab hr<|oQ (a:=true) ?_ (λ_=>lE) (λh=>nomatch h)
    refine mZ (b:=true||true) (or_cons ?_ (λh=>nomatch h))
    exact i5 (a:=.d (sd [])) (b:=.d (sd [])) (bK rfl) (lC (l:=[])) (mN _ _)
   | some b=>
    refine oQ (a:=Txt.isalnum (S [b])) ?_ (λh=>?_) (λh=>?_)
    ·skip
     refine ab (by simp:Txt.isalnum (S [b])=(false||(Txt.isalnum (S [b])||false))) ?_
     refine mZ (or_cons (a:=false) (b:=Txt.isalnum (S [b])||false) ?_ λ_=>or_cons (b:=false) ?_ λ_=>or_nil)
     ·exact i5 (a:=.d (sd [b])) (b:=.d (sd [])) (bK rfl) (lC (l:=[])) (mN _ _)
     ·refine qo (l:=.d (.bool (Txt.isalnum (S [b])))) ?_ (tg _)
      exact qx (a:=.d (sd [b])) (ls:=[]) (bK rfl) F.plainAttrs_str F.slot_str_isalnum F.type_str_isalnum nj gt Dg
    ·have hr:cB inner k special=none:=by unfold cB;refine ab hk ?_;simp only[if_true,hb,h]
     exact ab hr lE
    ·have hr:cB inner k special=some b:=by unfold cB;refine ab hk ?_;simp only[if_true,hb,h,Bool.false_eq_true,if_false]
     exact ab hr<|bK rfl
  ·refine ly<|kH<|jX (l:=.d (pd (cB inner k special))) ?_ (.inl rfl) rfl
   have au:((inner[k]?).toList==[92])=false:=ha
   cases hk:inner[k]? with
   | none=>
    have hr:cB inner k special=none:=by unfold cB;exact ab hk rfl
    refine ab hr<|oQ (a:=true) ?_ (λ_=>lE) (λh=>nomatch h)
    refine mZ (b:=true||true) (or_cons ?_ (λh=>nomatch h))
    exact i5 (a:=.d (sd [])) (b:=.d (sd [])) (bK rfl) (lC (l:=[])) (mN _ _)
   | some x=>
    have hx:x≠92:=by rintro rfl;rw[hk]at au;exact tF au
    refine oQ (a:=decide (x∈special)) ?_ (λh=>?_) (λh=>?_)
    ·skip
     refine ab (by simp:decide (x∈special)=(false||(decide (x∈special)||false))) ?_
     refine mZ (or_cons (a:=false) (b:=decide (x∈special)||false) ?_ λ_=>or_cons (b:=false) ?_ λ_=>or_nil)
     ·exact i5 (a:=.d (sd [x])) (b:=.d (sd [])) (bK rfl) (lC (l:=[])) (mN _ _)
     ·exact i5 (a:=.d (sd [x])) (b:=.d (sd special)) (bK rfl) (bK rfl) (xc _ _)
    ·have hr:cB inner k special=none:=by unfold cB;refine ab hk ?_;simp only[if_neg hx];exact ab (if_pos (by simpa using h)) rfl
     exact ab hr lE
    ·have hr:cB inner k special=some x:=by unfold cB;refine ab hk ?_;simp only[if_neg hx];exact ab (if_neg (by simpa using h)) rfl
     exact ab hr<|bK rfl
section
noncomputable def lD:LV->Option D
 | .d d=>some d
 | _=>none
@[simp] theorem NE(d:D):lD (.d d)=some d:=rfl
theorem jF{l:LV}{d:D}(h:lD l=some d):l=.d d:=by
 cases l with
 | d x=>exact aC (P:=λy=>LV.d x=.d y) h rfl
 | _=>exact nS h
noncomputable def o9:Pr D:=cn D.ctorIdx 3 (λd q=>D.str.elim (motive_1:=λ_=>List Nat) d q λx=>x.cps.toList) (λx=>sd x) (λd q=>D.str.elim (motive_1:=λd=>∀q,sd (D.str.elim (motive_1:=λ_=>List Nat) d q λx=>x.cps.toList)=d) d q (λx _=>congrArg D.str (i6 x).symm) q) H
noncomputable def pw:Pr D:=cn D.ctorIdx 4 (λd q=>D.bytes.elim (motive_1:=λ_=>List UInt8) d q λx=>x.toList) (λx=>.bytes x.toArray) (λd q=>D.bytes.elim (motive_1:=λd=>∀q,D.bytes (D.bytes.elim (motive_1:=λ_=>List UInt8) d q λx=>x.toList).toArray=d) d q (λx _=>congrArg D.bytes x.toArray_toList) q) H
noncomputable def gG(p:Pr D)(l:LV):Option p.S:=(lD l).bind p.m
theorem gQ{p:Pr D}{l:LV}{s:p.S}(h:gG p l=some s):l=.d (p.b s):=bE h λd h1 h2=>(jF h1).trans (congrArg LV.d (p.ok h2).symm)
noncomputable def cq:LV->Option Int:=gG ml
noncomputable def br:LV->Option (List Nat):=gG o9
noncomputable def gA:LV->Option (List UInt8):=gG pw
noncomputable def mD:LV->Option Bool:=gG uF
noncomputable def lO:LV->Option (List D)
 | .own ds=>some ds
 | _=>none
theorem Aj{l:LV}{ds:List D}(h:lO l=some ds):l=.own ds:=by
 cases l with
 | own x=>exact aC (P:=λy=>LV.own x=.own y) h rfl
 | _=>exact nS h
noncomputable def bD(l:LV):Option (List D):=(gG iB l).or (lO l)
noncomputable def i3:List D->Option (List Int):=allM ml
noncomputable def lJ:List D->Option (List (List Nat)):=allM o9
theorem ja(l:List Nat):(S l).cps.toList=l:=List.toList_toArray
theorem dL{l:LV}{i:Int}(h:cq l=some i):l=.d (.int i):=gQ h
theorem db{l:LV}{x:List Nat}(h:br l=some x):l=.d (sd x):=gQ h
theorem eF{l:LV}{ds:List D}(h:bD l=some ds):dh l ds:=ca h (λh=>.inl (gQ h)) λh=>.inr (Aj h)
theorem kO{l:LV}{b:List UInt8}(h:gA l=some b):l=.d (.bytes b.toArray):=gQ h
theorem oR{l:LV}{b:Bool}(h:mD l=some b):l=.d (.bool b):=gQ h
@[simp] theorem lI(i:Int):cq (.d (.int i))=some i:=rfl
@[simp] theorem da(l:List Nat):br (.d (sd l))=some l:=congrArg some (ja l)
@[simp] theorem Nx(x:Str):br (.d (.str x))=some x.cps.toList:=rfl
@[simp] theorem oy(l:List D):bD (.d (.list l))=some l:=rfl
@[simp] theorem Js(l:List D):bD (.own l)=some l:=rfl
@[simp] theorem m8(l:List UInt8):gA (.d (.bytes l.toArray))=some l:=congrArg some List.toList_toArray
@[simp] theorem Nt(b:Bool):mD (.d (.bool b))=some b:=rfl
theorem qb{l:List D}{ns:List Int}(h:i3 l=some ns):l=ns.map .int:=za h
theorem wW{l:List D}{xs:List (List Nat)}(h:lJ l=some xs):l=xs.map sd:=za h
theorem n9{α:Type}(f:α->Int)(l:List α):i3 (l.map λx=>.int (f x))=some (l.map f):=yq l λ_=>rfl
theorem Cn{α:Type}(f:α->List Nat)(l:List α):lJ (l.map λx=>sd (f x))=some (l.map f):=yq l λx=>congrArg some (ja (f x))
@[simp] theorem wD(l:List Int):i3 (l.map .int)=some l:=(n9 id l).trans (congrArg some l.map_id)
@[simp] theorem sx(l:List (List Nat)):lJ (l.map sd)=some l:=(Cn id l).trans (congrArg some l.map_id)
noncomputable def AH(a b:LV):Option D:=gz br (λx y=>if x.length+y.length<=1000000 then some (sd (x++y))else none) a b
noncomputable def uZ(f:Int->Int->Option D)(a b:LV):Option D:=gz cq f a b
noncomputable def AK(a b:LV):Option D:=(uZ (λx y=>some (.int (x+y))) a b).or ((AH a b).or (gz bD (λx y=>if x.length+y.length<=1000000 then some (.list (x++y))else none) a b))
noncomputable def uY(a b:LV):Option D:=(cq b).bind λy=>((cq a).bind λx=>if y.natAbs < 2 ^ 60 then some (.int (x * y))else none).or
 ((bD a).bind λds=>if ds.length * y.toNat<=100000/\-1000000<=y/\y<=1000000 then some (.list (List.replicate y.toNat ds).flatten)else none)
noncomputable def binI:Operator->Int->Int->Option Int
 | .Sub,x,y=>some (x - y)
 | .FloorDiv,x,y=>if y≠0/\y.natAbs < 1073741824 then some (x.fdiv y)else none
 | .Mod,x,y=>if y≠0 then some (x.fmod y)else none
 | .Pow,x,y=>if 0<=y/\y<=1000/\x.natAbs < 2 ^ 64 then some (x ^ y.toNat)else none
 | .LShift,x,y=>if 0<=y/\y<=1000/\x.natAbs < 2 ^ 64 then some (x * 2 ^ y.toNat)else none
 | .RShift,x,y=>if 0<=y then some (x.fdiv (2 ^ y.toNat))else none
 | .BitAnd,x,y=>some (Builtin.bitAnd x y)
 | .BitOr,x,y=>some (Builtin.bitOr x y)
 | .Add,_,_ | .Mult,_,_ | .MatMult,_,_ | .Div,_,_ | .BitXor,_,_=>none
noncomputable def AE(f:Int->Int->Option Int)(a b:LV):Option D:=uZ (λx y=>(f x y).map .int) a b
noncomputable def cX(op:Operator)(a b:LV):Option D:=((if op==.Add then AK a b else none).or (if op==.Mult then uY a b else none)).or (AE (binI op) a b)
section
variable {c:Cx} {n:Nat}
theorem Jx{a b:LV}{r:D}(h:AK a b=some r):be c n (binaryOp .Add) a b (.d r):=
 ca h (λh=>gn h λx y h1 h2 h=>aC h (dL h1▸dL h2▸qF x y)) λh=>ca h (λh=>gn h λx y h1 h2 h=>iE h λq=>db h1▸db h2▸zA x y q) λh=>gn h λx y h1 h2 h=>iE h λq=>sU (eF h1) (eF h2) q
theorem Io{a b:LV}{r:D}(h:uY a b=some r):be c n (binaryOp .Mult) a b (.d r):=
 bE h λy h1 h=>dL h1▸ca h (λh=>bE h λx h2 h=>iE h λq=>dL h2▸J5 q) λh=>bE h λds h2 h=>iE h λq=>yJ (eF h2) q.1 q.2.1 q.2.2
theorem Jq(op:Operator)(x y z:Int)(h:binI op x y=some z):be c n (binaryOp op) (.d (.int x)) (.d (.int y)) (.d (.int z)):=by
 cases op
 case Sub=>exact aC h (zy _ _)
 case BitAnd=>exact aC h (J7 _ _)
 case BitOr=>exact aC h (LJ _ _)
 case FloorDiv=>exact iE h λq=>Cr q.1 q.2
 case Mod=>exact iE h J6
 case Pow=>exact iE h λq=>J4 q.1 q.2.1 q.2.2
 case LShift=>exact iE h λq=>J3 q.1 q.2.1 q.2.2
 case RShift=>exact iE h J2
 all_goals exact nS h
theorem Jp{op:Operator}{a b:LV}{r:D}(h:cX op a b=some r):be c n (binaryOp op) a b (.d r):=
 ca h (λh=>ca h (λh=>iO h λq h=>eq_of_beq q▸Jx h) λh=>iO h λq h=>eq_of_beq q▸Io h) λh=>gn h λx y h1 h2 h=>mE h λz h3=>dL h1▸dL h2▸Jq op x y z h3
end
noncomputable def uJ(a b:LV):Option D:=(uZ (λx y=>some (.int (x+y))) a b).or (AH a b)
theorem GA{c:Cx}{n:Nat}{a b:LV}{r:D}(h:uJ a b=some r):be c n (inplaceOp .Add) a b (.d r):=
 ca h (λh=>gn h λx y h1 h2 h=>aC h (dL h1▸dL h2▸H0 x y)) λh=>gn h λx y h1 h2 h=>iE h λq=>db h1▸db h2▸yK x y q
noncomputable def An{α β:Type}(f:α->Option β)(a b:α):Bool:=(f a).isSome&&(f b).isSome
noncomputable def qZ(x y:D):Bool:=An ml.m x y||An pS.m x y
noncomputable def jZ(f:D->D->Bool)(l:List D):List D->Bool:=l.rec (λ_=>true) λx _ ih m=>m.rec true λy ys _=>f x y&&ih ys
noncomputable def eA(k:Nat):D->D->Bool:=k.rec qZ λ_ ih x y=>((gz iB.m (λa b=>some (jZ ih a b)) x y).getD (qZ x y))
noncomputable def kZ(k:Nat)(a b:List D):Bool:=jZ (eA k) a b
theorem qS{α:Type}{o:Option α}{G:Prop}(h:o.isSome=true)(k:∀a,o=some a->G):G:=(Option.isSome_iff_exists.mp h).elim k
theorem yo{k:Nat}{x y:D}(h:qZ x y=true):dZ k x y:=
 xY (((Bool.or_eq_true _ _).mp h).imp (λh=>a2 h λh1 h2=>qS h1 λi h1=>qS h2 λj h2=>⟨i,j,(ml.ok h1).symm,(ml.ok h2).symm⟩) λh=>a2 h λh1 h2=>qS h1 λi h1=>qS h2 λj h2=>⟨i,j,(pS.ok h1).symm,(pS.ok h2).symm⟩)
theorem wa{f:D->D->Bool}{k:Nat}(H:∀x y,f x y=true->dZ k x y)(a b:List D)(h:jZ f a b=true):mq k a b:=by
 induction a generalizing b with
 | nil=>exact λ_ _ _ h=>nS h
 | cons x xs ih=>
  cases b with
  | nil=>exact λ_ _ _ _ h=>nS h
  | cons y ys=>
   refine a2 h λh1 h2 j u v e1 e2=>?_
   cases j with
   | zero=>exact Option.some.inj e1▸Option.some.inj e2▸H x y h1
   | succ j=>exact ih ys h2 j u v e1 e2
theorem t7(k:Nat)(x y:D)(h:eA k x y=true):dZ k x y:=by
 induction k generalizing x y with
 | zero=>exact yo h
 | succ k ih=>
  have h:((gz iB.m (λa b=>some (jZ (eA k) a b)) x y).getD (qZ x y))=true:=h
  cases e:gz iB.m (λa b=>some (jZ (eA k) a b)) x y with
  | none=>rw[e]at h;exact yo h
  | some q=>
   rw[e]at h
   exact gn e λa b h1 h2 e=>.inr ⟨a,b,(iB.ok h1).symm,(iB.ok h2).symm,wa ih a b ((Option.some.inj e).trans h)⟩
theorem xX(k:Nat)(x y:List D)(h:kZ k x y=true):mq k x y:=wa (t7 k) x y h
noncomputable def dC{α:Type}(l:List α):Option α:=l.rec none λx r _=>if r.isEmpty then some x else none
theorem eE{α:Type}{l:List α}{k:α}(h:dC l=some k):l=[k]:=by
 cases l with
 | nil=>exact nS h
 | cons x r=>exact iE (P:=λk=>x::r=[k]) h λq=>congrArg (x::·) (List.isEmpty_iff.mp q)
noncomputable def rW(a b:LV):Option Bool:=(gz cq (λx y=>some (x==y)) a b).or ((gz br (λx y=>some (x==y)) a b).or ((gz mD (λx y=>some (x==y)) a b).or (gz bD (λx y=>if kZ 6 x y then some (eB x y)else none) a b)))
noncomputable def rQ(a b:LV):Option Bool:=(gz cq (λx y=>some (x !=y)) a b).or ((gz br (λx y=>some (x !=y)) a b).or (gz bD (λx y=>if kZ 6 x y then some (!eB x y)else none) a b))
noncomputable def AF(ds:List D)(d:D):Option Bool:=if ds.all (λe=>eA 6 e d)then some (ds.any λe=>bA e d)else none
noncomputable def mz(a b:LV):Option Bool:=((br b).bind λy=>(br a).bind λx=>(dC x).map λk=>decide (k∈y)).or ((bD b).bind λds=>(lD a).bind λd=>AF ds d)
noncomputable def u0(a b:LV):Option Bool:=(mz a b).or ((gG Mz b).bind λds=>(lD a).bind λd=>AF ds d)
noncomputable def pi(f:Int->Int->Bool)(a b:LV):Option Bool:=gz cq (λx y=>some (f x y)) a b
noncomputable def vp(a b:LV):Option Bool:=((gG Ae b).map λ_=>isNone a).or (((gG vg b).bind λ(Y:String)=>(gG vg a).map λ(X:String)=>X==Y).or ((gG MB b).bind λ_=>(gG pS a).map λ_=>false))
noncomputable def dg:CmpOp->LV->LV->Option Bool
 | .Eq,a,b=>rW a b
 | .NotEq,a,b=>rQ a b
 | .Lt,a,b=>pi (λx y=>decide (x < y)) a b
 | .LtE,a,b=>pi (λx y=>decide (x<=y)) a b
 | .Gt,a,b=>pi (λx y=>decide (x > y)) a b
 | .GtE,a,b=>pi (λx y=>decide (x >= y)) a b
 | .In,a,b=>u0 a b
 | .NotIn,a,b=>(mz a b).map (!·)
 | .Is,a,b=>vp a b
 | .IsNot,a,b=>(vp a b).map (!·)
section
variable {c:Cx} {n:Nat}
theorem zL{a b:LV}{r:Bool}(h:rW a b=some r):be c n (compareOp .Eq) a b (.d (.bool r)):=
 ca h (λh=>gn h λx y h1 h2 h=>aC h (dL h1▸dL h2▸Ew x y)) λh=>ca h (λh=>gn h λx y h1 h2 h=>aC h (db h1▸db h2▸mN x y)) λh=>ca h (λh=>gn h λx y h1 h2 h=>aC h (oR h1▸oR h2▸wx x y)) λh=>
  gn h λx y h1 h2 h=>iE h λq=>ww (eF h1) (eF h2) 6 (xX _ _ _ q)
theorem Km{a b:LV}{r:Bool}(h:rQ a b=some r):be c n (compareOp .NotEq) a b (.d (.bool r)):=
 ca h (λh=>gn h λx y h1 h2 h=>aC h (dL h1▸dL h2▸xb x y)) λh=>ca h (λh=>gn h λx y h1 h2 h=>aC h (db h1▸db h2▸Et x y)) λh=>
  gn h λx y h1 h2 h=>iE h λq=>De (eF h1) (eF h2) 6 (xX _ _ _ q)
theorem uh{ds:List D}{d:D}(h:(ds.all λe=>eA 6 e d)=true):∀e∈ds,dZ 6 e d:=λe he=>t7 _ _ _ (List.all_eq_true.mp h e he)
theorem zJ{a b:LV}{r:Bool}(h:mz a b=some r):be c n (compareOp .In) a b (.d (.bool r))/\be c n (compareOp .NotIn) a b (.d (.bool (!r))):=
 ca h (λh=>bE h λy h1 h=>bE h λx h2 h=>mE h λk h3=>db h1▸(db h2).trans (congrArg (λx=>LV.d (sd x)) (eE h3))▸⟨xc _ _,BZ _ _⟩) λh=>
  bE h λds h1 h=>bE h λd h2 h=>iE h λq=>jF h2▸⟨wv (eF h1) 6 (uh q),Bt (eF h1) 6 (uh q)⟩
theorem IG{a b:LV}{r:Bool}(h:u0 a b=some r):be c n (compareOp .In) a b (.d (.bool r)):=
 ca h (λh=>(zJ h).1) λh=>bE h λds h1 h=>bE h λd h2 h=>iE h λq=>jF h2▸gQ h1▸Eu 6 (uh q)
theorem zi(X Y:String):(Value.type X==Value.type Y)=(X==Y):=Bool.eq_iff_iff.mpr ⟨λh=>beq_iff_eq.mpr (Value.type.inj (eq_of_beq h)),λh=>beq_iff_eq.mpr (congrArg _ (eq_of_beq h))⟩
theorem F5(X Y:String):be c n (compareOp .Is) (.d (.ty X)) (.d (.ty Y)) (.d (.bool (X==Y))):=λaa Z A s Q E ow va vb rm I ra rb h=>
 ag.pr ra (ag.pr rb (wpAny_pure (a:=Value.bool (Value.type X==Value.type Y)) (zi X Y▸h _ _ (.bool _) (.refl _ _))))
theorem Cq(X Y:String):be c n (compareOp .IsNot) (.d (.ty X)) (.d (.ty Y)) (.d (.bool (!(X==Y)))):=λaa Z A s Q E ow va vb rm I ra rb h=>
 ag.pr ra (ag.pr rb (isnot_type (zi X Y▸h _ _ (.bool _) (.refl _ _))))
theorem B0(x:Str):be c n (compareOp .Is) (.d (.str x)) (.d .obj) (.d (.bool false)):=λaa Z A s Q E ow va vb rm I ra rb h=>
 ag.bw ra λ_=>ag.objE rb λ_=>wpAny_pure (a:=Value.bool (Value.str _ _==Value.ref _)) (h _ _ (.bool false) (.refl _ _))
theorem Ba(x:Str):be c n (compareOp .IsNot) (.d (.str x)) (.d .obj) (.d (.bool true)):=λaa Z A s Q E ow va vb rm I ra rb h=>
 ag.bw ra λ_=>ag.objE rb λ_=>wpAny_pure (a:=Value.bool (!(Value.str _ _==Value.ref _))) (h _ _ (.bool true) (.refl _ _))
theorem zG{a b:LV}{r:Bool}(h:vp a b=some r):be c n (compareOp .Is) a b (.d (.bool r))/\be c n (compareOp .IsNot) a b (.d (.bool (!r))):=
 ca h (λh=>mE h λ_ h1=>gQ h1▸⟨sF _,Bu _⟩) λh=>ca h (λh=>bE h λY h1 h=>mE h λX h2=>gQ h1▸gQ h2▸⟨F5 _ _,Cq _ _⟩) λh=>bE h λ_ h1 h=>mE h λx h2=>gQ h1▸gQ h2▸⟨B0 _,Ba _⟩
theorem qw{op:CmpOp}{f:Int->Int->Bool}(H:∀x y,be c n (compareOp op) (.d (.int x)) (.d (.int y)) (.d (.bool (f x y)))){a b:LV}{r:Bool}(h:pi f a b=some r):be c n (compareOp op) a b (.d (.bool r)):=
 gn h λx y h1 h2 h=>aC h (dL h1▸dL h2▸H x y)
theorem yY{op:CmpOp}{a b:LV}{r:Bool}(h:dg op a b=some r):be c n (compareOp op) a b (.d (.bool r)):=by
 cases op
 case Eq=>exact zL h
 case NotEq=>exact Km h
 case Lt=>exact qw LK h
 case LtE=>exact qw LL h
 case Gt=>exact qw LM h
 case GtE=>exact qw LN h
 case Is=>exact(zG h).1
 case IsNot=>exact mE h λq h=>(zG h).2
 case In=>exact IG h
 case NotIn=>exact mE h λq h=>(zJ h).2
end
noncomputable def re(a:LV):Option Bool:=((gG Ae a).map λ_=>false).or ((mD a).or (((cq a).map (·!=0)).or (((br a).bind λx=>if x.length<=1000000 then some (!x.isEmpty)else none).or ((bD a).bind λds=>if ds.length<=1000000 then some (!ds.isEmpty)else none))))
theorem Hy{c:Cx}{n:Nat}{a:LV}{b:Bool}(h:re a=some b):ll c n a b:=
 ca h (λh=>mE h λ_ h1=>gQ h1▸xJ) λh=>ca h (λh=>oR h▸tg _) λh=>ca h (λh=>mE h λi h1=>dL h1▸Hx _) λh=>ca h (λh=>bE h λx h1 h=>iE h λq=>db h1▸Hw _ q) λh=>bE h λds h1 h=>iE h λq=>xK (eF h1) q
noncomputable def hW(a i:LV):Option D:=(cq i).bind λi=>((bD a).bind λds=>if -(ds.length:Int)<=i/\i < ds.length/\ds.length<=1000000 then ds[dJ ds.length i]? else none).or
 (((br a).bind λx=>if -(x.length:Int)<=i/\i < x.length/\x.length<=1000000 then(x[dJ x.length i]?).map λk=>sd [k]else none).or
 ((gA a).bind λb=>if 0<=i/\i < b.length/\b.length<=1000000 then some (.int (b.getD i.toNat 0).toNat)else none))
theorem Gs{c:Cx}{n:Nat}{a i:LV}{r:D}(h:hW a i=some r):Itm c n a i (.d r):=
 bE h λk h1 h=>dL h1▸ca h (λh=>bE h λds h2 h=>iO h λq h=>oB (eF h2) q.1 q.2.1 q.2.2 h) λh=>ca h (λh=>bE h λx h2 h=>iO h λq h=>db h2▸mE h λz h3=>us q.1 q.2.1 q.2.2 h3) λh=>bE h λb h2 h=>iE h λq=>kO h2▸Gu q.1 q.2.1 q.2.2
noncomputable def ms(a:LV)(lo hi:Option Int):Option D:=((bD a).bind λds=>if ds.length<=1000000 then some (.list (cut ds lo hi))else none).or ((br a).bind λx=>if x.length<=1000000 then some (sd (cut x lo hi))else none)
theorem Je{c:Cx}{n:Nat}{aa:Env}{Z:Ctx}{value:Expr}{lo hi:Option Expr}{p pos:Pos}{a:LV}{l h:Option Int}{r:D}(h1:Ev c n aa Z value a)(h2:Pt c n aa Z lo l)(h3:Pt c n aa Z hi h)(e:ms a l h=some r):
  Ev c n aa Z (.Subscript value (.Slice lo hi none p) pos) (.d r):=
 ca e (λe=>bE e λds h4 e=>iE e λq=>vK h1 h2 h3 (eF h4) q) λe=>bE e λx h4 e=>iE e λq=>vS (db h4▸h1) h2 h3 q
inductive BF where
 | len | sum | max | bytes | list | type | isinstance | object
noncomputable def BF.name:BF->String
 | .len=>"len"
 | .sum=>"sum"
 | .max=>"max"
 | .bytes=>"bytes"
 | .list=>"list"
 | .type=>"type"
 | .isinstance=>"isinstance"
 | .object=>"object"
noncomputable def BF.isType:BF->Bool
 | .len | .sum | .max | .isinstance=>false
 | .bytes | .list | .type | .object=>true
noncomputable def BF.val(f:BF):Value:=if f.isType then .type f.name else .builtin f.name
noncomputable def rt(a:LV):Option D:=((bD a).bind λds=>if ds.length<=1000000 then some (.int ds.length)else none).or (((br a).bind λx=>if x.length<=1000000 then some (.int x.length)else none).or ((gA a).bind λb=>if b.length<=1000000 then some (.int b.length)else none))
noncomputable def iC(a:LV):Option (List Int):=(bD a).bind i3
noncomputable def z4(a:LV):Option D:=((gA a).map λ_=>.ty "bytes").or (((mD a).map λ_=>.ty "bool").or ((cq a).map λ_=>.ty "int"))
noncomputable def mo(l:List Int):Option Int:=l.max?
theorem qs{l:List Int}{m:Int}(h:mo l=some m):m∈l/\∀x∈l,x<=m:=List.max?_eq_some_iff.mp h
theorem u'{α β:Type}{F:List α->Option β}{r:β}{l:List α}(h:F l=some r)(h0:F []=none:=by rfl)(h2:∀a b r,F (a::b::r)=none:=by intros;rfl):∃a,l=[a]:=by
 cases l with
 | nil=>exact nS (h0.symm.trans h)
 | cons a l=>cases l with
  | nil=>exact⟨a,rfl⟩
  | cons b r=>exact nS ((h2 a b r).symm.trans h)
theorem u9{α β:Type}{F:List α->Option β}{r:β}{l:List α}(h:F l=some r)(h0:F []=none:=by rfl)(h1:∀a,F [a]=none:=by intros;rfl)(h2:∀a b c r,F (a::b::c::r)=none:=by intros;rfl):∃a b,l=[a,b]:=by
 cases l with
 | nil=>exact nS (h0.symm.trans h)
 | cons a l=>exact(u' (F:=λl=>F (a::l)) h (h1 a) (h2 a)).elim λb e=>⟨a,b,e▸rfl⟩
noncomputable def rc{α:Type}(l:List α):Option (α×α):=l.rec none λx r _=>(dC r).map λy=>(x,y)
theorem tV{α:Type}{l:List α}{k:α×α}(h:rc l=some k):l=[k.1,k.2]:=by
 cases l with
 | nil=>exact nS h
 | cons x r=>exact mE (P:=λk=>x::r=[k.1,k.2]) h λy e=>congrArg (x::·) (eE e)
noncomputable def l8:BF->List LV->Option D
 | .len,l=>(dC l).bind rt
 | .sum,l=>(dC l).bind λa=>(iC a).map λl=>.int l.sum
 | .max,l=>(dC l).bind λa=>((iC a).bind mo).map .int
 | .bytes,l=>(dC l).bind λa=>(iC a).bind λl=>if l.all (λn=>decide (0<=n)&&decide (n < 256))/\l.length<=1000000 then some (.bytes (l.map λn=>n.toNat.toUInt8).toArray)else none
 | .list,l=>(dC l).bind λa=>(br a).bind λx=>if x.length<=100000 then some (.list (x.map λk=>sd [k]))else none
 | .type,l=>(dC l).bind z4
 | .isinstance,l=>(rc l).bind λp=>(br p.1).bind λ_=>(gG vg p.2).bind λ(y:String)=>if y="str" then some (.bool true)else none
 | .object,l=>if l.isEmpty then some .obj else none
theorem DM{a:LV}:l8 .list [a]=(br a).bind λx=>if x.length<=100000 then some (.list (x.map λk=>sd [k]))else none:=rfl
theorem Nl{a:LV}:l8 .len [a]=rt a:=rfl
theorem ki{α:Type}{p:Prop}[Decidable p]{o:Option α}{r:α}(h:(if p then o else none)=some r):p/\o=some r:=iO h .intro
theorem BF.glob(f:BF):dr (Str.ofString f.name) f.val:=by
 cases f
 ·exact oq
 ·exact GG
 ·exact gb (x:="max")
 ·exact wH
 ·exact EP
 ·exact EO
 ·exact Bb
 ·exact CC
section
variable {c:Cx} {n:Nat}
theorem Iy{a:LV}{r:D}(h:rt a=some r):dm c n (.builtin "len") [a] (.d r):=
 ca h (λh=>bE h λds h1 h=>iE h λq=>so (eF h1) q) λh=>ca h (λh=>bE h λx h1 h=>iE h λq=>db h1▸sG q) λh=>bE h λb h1 h=>iE h λq=>kO h1▸(B3 (b:=b.toArray) q)
theorem tK{a:LV}{l:List Int}(h:iC a=some l):dh a (l.map .int):=bE h λds h1 h2=>qb h2▸eF h1
theorem Fk{a:LV}{r:D}(h:z4 a=some r):dm c n (.type "type") [a] (.d r):=
 ca h (λh=>mE h λ_ h1=>kO h1▸Bv) λh=>ca h (λh=>mE h λ_ h1=>oR h1▸B1) λh=>mE h λ_ h1=>dL h1▸Cs
theorem G7{f:BF}{ls:List LV}{r:D}(h:l8 f ls=some r):dm c n f.val ls (.d r):=by
 cases f with
 | object=>exact iE h λq=>List.isEmpty_iff.mp q▸Ey
 | isinstance=>exact bE h λp h0 h=>tV h0▸bE h λx h1 h=>bE h λ(y:String) h2 h=>iE h λq=>db h1▸(gQ h2).trans (congrArg (λy=>LV.d (.ty y)) q)▸A3
 | len=>exact bE h λa h0 h=>eE h0▸Iy h
 | sum=>exact bE h λa h0 h=>eE h0▸mE h λl h1=>Kk (tK h1)
 | max=>exact bE h λa h0 h=>eE h0▸mE h λm h1=>bE h1 λl h2 h3=>Kl (tK h2) (qs h3).1 (qs h3).2
 | bytes=>exact bE h λa h0 h=>eE h0▸bE h λl h1 h=>iE h λq=>Gc (tK h1) (λn hn=>a2 (List.all_eq_true.mp q.1 n hn) λh1 h2=>⟨of_decide_eq_true h1,of_decide_eq_true h2⟩) q.2
 | list=>exact bE h λa h0 h=>eE h0▸bE h λx h1 h=>iE h λq=>db h1▸Ct q
 | type=>exact bE h λa h0 h=>eE h0▸Fk h
end
end
noncomputable def kN:Pr Const:=cn Const.ctorIdx 0 (λ_ _=>()) (λ_=>.none) (λa q=>Const.none.elim (motive:=λa=>.none=a) a q rfl) H
noncomputable def kB(p0:Pr Bool):Pr Const:=cn Const.ctorIdx 1 (λa q=>Const.bool.elim (motive:=λ_=>Bool) a q (λx0=>x0)) (λx=>.bool x) (λa q=>Const.bool.elim (motive:=λa=>∀q,(λx:Bool=>Const.bool x) (Const.bool.elim (motive:=λ_=>Bool) a q (λx0=>x0))=a) a q (λ_ _=>rfl) q) p0
noncomputable def kI(p0:Pr Int):Pr Const:=cn Const.ctorIdx 2 (λa q=>Const.int.elim (motive:=λ_=>Int) a q (λx0=>x0)) (λx=>.int x) (λa q=>Const.int.elim (motive:=λa=>∀q,(λx:Int=>Const.int x) (Const.int.elim (motive:=λ_=>Int) a q (λx0=>x0))=a) a q (λ_ _=>rfl) q) p0
noncomputable def kS(p0:Pr Str):Pr Const:=cn Const.ctorIdx 5 (λa q=>Const.str.elim (motive:=λ_=>Str) a q (λx0=>x0)) (λx=>.str x) (λa q=>Const.str.elim (motive:=λa=>∀q,(λx:Str=>Const.str x) (Const.str.elim (motive:=λ_=>Str) a q (λx0=>x0))=a) a q (λ_ _=>rfl) q) p0
noncomputable def kY(p0:Pr (List UInt8)):Pr Const:=cn Const.ctorIdx 6 (λa q=>Const.bytes.elim (motive:=λ_=>(List UInt8)) a q (λx0=>x0)) (λx=>.bytes x) (λa q=>Const.bytes.elim (motive:=λa=>∀q,(λx:(List UInt8)=>Const.bytes x) (Const.bytes.elim (motive:=λ_=>(List UInt8)) a q (λx0=>x0))=a) a q (λ_ _=>rfl) q) p0
noncomputable def cK(p0:Pr Const)(p1:Pr Nat)(p2:Pr Pos):Pr Expr:=cn Expr.ctorIdx 19 (λa q=>Expr.Constant.elim (motive_1:=λ_=>Const×Nat×Pos) a q (λx0 x1 x2=>(x0,x1,x2))) (λx=>.Constant x.1 x.2.1 x.2.2) (λa q=>Expr.Constant.elim (motive_1:=λa=>∀q,(λx:Const×Nat×Pos=>Expr.Constant x.1 x.2.1 x.2.2) (Expr.Constant.elim (motive_1:=λ_=>Const×Nat×Pos) a q (λx0 x1 x2=>(x0,x1,x2)))=a) a q (λ_ _ _ _=>rfl) q) (P2 p0 (P2 p1 p2))
noncomputable def cN(p0:Pr Str)(p1:Pr Pos):Pr Expr:=cn Expr.ctorIdx 23 (λa q=>Expr.Name.elim (motive_1:=λ_=>Str×Pos) a q (λx0 x1=>(x0,x1))) (λx=>.Name x.1 x.2) (λa q=>Expr.Name.elim (motive_1:=λa=>∀q,(λx:Str×Pos=>Expr.Name x.1 x.2) (Expr.Name.elim (motive_1:=λ_=>Str×Pos) a q (λx0 x1=>(x0,x1)))=a) a q (λ_ _ _=>rfl) q) (P2 p0 p1)
noncomputable def u8(p0:Pr Expr)(p1:Pr Operator)(p2:Pr Expr)(p3:Pr Pos):Pr Expr:=cn Expr.ctorIdx 2 (λa q=>Expr.BinOp.elim (motive_1:=λ_=>Expr×Operator×Expr×Pos) a q (λx0 x1 x2 x3=>(x0,x1,x2,x3))) (λx=>.BinOp x.1 x.2.1 x.2.2.1 x.2.2.2) (λa q=>Expr.BinOp.elim (motive_1:=λa=>∀q,(λx:Expr×Operator×Expr×Pos=>Expr.BinOp x.1 x.2.1 x.2.2.1 x.2.2.2) (Expr.BinOp.elim (motive_1:=λ_=>Expr×Operator×Expr×Pos) a q (λx0 x1 x2 x3=>(x0,x1,x2,x3)))=a) a q (λ_ _ _ _ _=>rfl) q) (P2 p0 (P2 p1 (P2 p2 p3)))
noncomputable def rE(p0:Pr Expr)(p1:Pr (List CmpOp))(p2:Pr (List Expr))(p3:Pr Pos):Pr Expr:=cn Expr.ctorIdx 15 (λa q=>Expr.Compare.elim (motive_1:=λ_=>Expr×(List CmpOp)×(List Expr)×Pos) a q (λx0 x1 x2 x3=>(x0,x1,x2,x3))) (λx=>.Compare x.1 x.2.1 x.2.2.1 x.2.2.2) (λa q=>Expr.Compare.elim (motive_1:=λa=>∀q,(λx:Expr×(List CmpOp)×(List Expr)×Pos=>Expr.Compare x.1 x.2.1 x.2.2.1 x.2.2.2) (Expr.Compare.elim (motive_1:=λ_=>Expr×(List CmpOp)×(List Expr)×Pos) a q (λx0 x1 x2 x3=>(x0,x1,x2,x3)))=a) a q (λ_ _ _ _ _=>rfl) q) (P2 p0 (P2 p1 (P2 p2 p3)))
noncomputable def nY(p0:Pr UnaryOp)(p1:Pr Expr)(p2:Pr Pos):Pr Expr:=cn Expr.ctorIdx 3 (λa q=>Expr.UnaryOp.elim (motive_1:=λ_=>UnaryOp×Expr×Pos) a q (λx0 x1 x2=>(x0,x1,x2))) (λx=>.UnaryOp x.1 x.2.1 x.2.2) (λa q=>Expr.UnaryOp.elim (motive_1:=λa=>∀q,(λx:UnaryOp×Expr×Pos=>Expr.UnaryOp x.1 x.2.1 x.2.2) (Expr.UnaryOp.elim (motive_1:=λ_=>UnaryOp×Expr×Pos) a q (λx0 x1 x2=>(x0,x1,x2)))=a) a q (λ_ _ _ _=>rfl) q) (P2 p0 (P2 p1 p2))
noncomputable def vx(p0:Pr BoolOp)(p1:Pr (List Expr))(p2:Pr Pos):Pr Expr:=cn Expr.ctorIdx 0 (λa q=>Expr.BoolOp.elim (motive_1:=λ_=>BoolOp×(List Expr)×Pos) a q (λx0 x1 x2=>(x0,x1,x2))) (λx=>.BoolOp x.1 x.2.1 x.2.2) (λa q=>Expr.BoolOp.elim (motive_1:=λa=>∀q,(λx:BoolOp×(List Expr)×Pos=>Expr.BoolOp x.1 x.2.1 x.2.2) (Expr.BoolOp.elim (motive_1:=λ_=>BoolOp×(List Expr)×Pos) a q (λx0 x1 x2=>(x0,x1,x2)))=a) a q (λ_ _ _ _=>rfl) q) (P2 p0 (P2 p1 p2))
noncomputable def vw(p0:Pr Expr)(p1:Pr Expr)(p2:Pr Expr)(p3:Pr Pos):Pr Expr:=cn Expr.ctorIdx 5 (λa q=>Expr.IfExp.elim (motive_1:=λ_=>Expr×Expr×Expr×Pos) a q (λx0 x1 x2 x3=>(x0,x1,x2,x3))) (λx=>.IfExp x.1 x.2.1 x.2.2.1 x.2.2.2) (λa q=>Expr.IfExp.elim (motive_1:=λa=>∀q,(λx:Expr×Expr×Expr×Pos=>Expr.IfExp x.1 x.2.1 x.2.2.1 x.2.2.2) (Expr.IfExp.elim (motive_1:=λ_=>Expr×Expr×Expr×Pos) a q (λx0 x1 x2 x3=>(x0,x1,x2,x3)))=a) a q (λ_ _ _ _ _=>rfl) q) (P2 p0 (P2 p1 (P2 p2 p3)))
noncomputable def pn(p0:Pr Expr)(p1:Pr Expr)(p2:Pr Pos):Pr Expr:=cn Expr.ctorIdx 21 (λa q=>Expr.Subscript.elim (motive_1:=λ_=>Expr×Expr×Pos) a q (λx0 x1 x2=>(x0,x1,x2))) (λx=>.Subscript x.1 x.2.1 x.2.2) (λa q=>Expr.Subscript.elim (motive_1:=λa=>∀q,(λx:Expr×Expr×Pos=>Expr.Subscript x.1 x.2.1 x.2.2) (Expr.Subscript.elim (motive_1:=λ_=>Expr×Expr×Pos) a q (λx0 x1 x2=>(x0,x1,x2)))=a) a q (λ_ _ _ _=>rfl) q) (P2 p0 (P2 p1 p2))
noncomputable def M6(p0:Pr (Option Expr))(p1:Pr (Option Expr))(p2:Pr (Option Expr))(p3:Pr Pos):Pr Expr:=cn Expr.ctorIdx 26 (λa q=>Expr.Slice.elim (motive_1:=λ_=>(Option Expr)×(Option Expr)×(Option Expr)×Pos) a q (λx0 x1 x2 x3=>(x0,x1,x2,x3))) (λx=>.Slice x.1 x.2.1 x.2.2.1 x.2.2.2) (λa q=>Expr.Slice.elim (motive_1:=λa=>∀q,(λx:(Option Expr)×(Option Expr)×(Option Expr)×Pos=>Expr.Slice x.1 x.2.1 x.2.2.1 x.2.2.2) (Expr.Slice.elim (motive_1:=λ_=>(Option Expr)×(Option Expr)×(Option Expr)×Pos) a q (λx0 x1 x2 x3=>(x0,x1,x2,x3)))=a) a q (λ_ _ _ _ _=>rfl) q) (P2 p0 (P2 p1 (P2 p2 p3)))
noncomputable def cL(p0:Pr (List Expr))(p1:Pr Pos):Pr Expr:=cn Expr.ctorIdx 24 (λa q=>Expr.List.elim (motive_1:=λ_=>(List Expr)×Pos) a q (λx0 x1=>(x0,x1))) (λx=>.List x.1 x.2) (λa q=>Expr.List.elim (motive_1:=λa=>∀q,(λx:(List Expr)×Pos=>Expr.List x.1 x.2) (Expr.List.elim (motive_1:=λ_=>(List Expr)×Pos) a q (λx0 x1=>(x0,x1)))=a) a q (λ_ _ _=>rfl) q) (P2 p0 p1)
noncomputable def cT(p0:Pr (List Expr))(p1:Pr Nat)(p2:Pr Pos):Pr Expr:=cn Expr.ctorIdx 25 (λa q=>Expr.Tuple.elim (motive_1:=λ_=>(List Expr)×Nat×Pos) a q (λx0 x1 x2=>(x0,x1,x2))) (λx=>.Tuple x.1 x.2.1 x.2.2) (λa q=>Expr.Tuple.elim (motive_1:=λa=>∀q,(λx:(List Expr)×Nat×Pos=>Expr.Tuple x.1 x.2.1 x.2.2) (Expr.Tuple.elim (motive_1:=λ_=>(List Expr)×Nat×Pos) a q (λx0 x1 x2=>(x0,x1,x2)))=a) a q (λ_ _ _ _=>rfl) q) (P2 p0 (P2 p1 p2))
noncomputable def cC(p0:Pr Expr)(p1:Pr (List Expr))(p2:Pr (List Keyword))(p3:Pr Pos):Pr Expr:=cn Expr.ctorIdx 16 (λa q=>Expr.Call.elim (motive_1:=λ_=>Expr×(List Expr)×(List Keyword)×Pos) a q (λx0 x1 x2 x3=>(x0,x1,x2,x3))) (λx=>.Call x.1 x.2.1 x.2.2.1 x.2.2.2) (λa q=>Expr.Call.elim (motive_1:=λa=>∀q,(λx:Expr×(List Expr)×(List Keyword)×Pos=>Expr.Call x.1 x.2.1 x.2.2.1 x.2.2.2) (Expr.Call.elim (motive_1:=λ_=>Expr×(List Expr)×(List Keyword)×Pos) a q (λx0 x1 x2 x3=>(x0,x1,x2,x3)))=a) a q (λ_ _ _ _ _=>rfl) q) (P2 p0 (P2 p1 (P2 p2 p3)))
noncomputable def cA(p0:Pr Expr)(p1:Pr Str)(p2:Pr Pos):Pr Expr:=cn Expr.ctorIdx 20 (λa q=>Expr.Attribute.elim (motive_1:=λ_=>Expr×Str×Pos) a q (λx0 x1 x2=>(x0,x1,x2))) (λx=>.Attribute x.1 x.2.1 x.2.2) (λa q=>Expr.Attribute.elim (motive_1:=λa=>∀q,(λx:Expr×Str×Pos=>Expr.Attribute x.1 x.2.1 x.2.2) (Expr.Attribute.elim (motive_1:=λ_=>Expr×Str×Pos) a q (λx0 x1 x2=>(x0,x1,x2)))=a) a q (λ_ _ _ _=>rfl) q) (P2 p0 (P2 p1 p2))
noncomputable def vu(p0:Pr Expr)(p1:Pr (List Comprehension))(p2:Pr Scope)(p3:Pr Pos):Pr Expr:=cn Expr.ctorIdx 8 (λa q=>Expr.ListComp.elim (motive_1:=λ_=>Expr×(List Comprehension)×Scope×Pos) a q (λx0 x1 x2 x3=>(x0,x1,x2,x3))) (λx=>.ListComp x.1 x.2.1 x.2.2.1 x.2.2.2) (λa q=>Expr.ListComp.elim (motive_1:=λa=>∀q,(λx:Expr×(List Comprehension)×Scope×Pos=>Expr.ListComp x.1 x.2.1 x.2.2.1 x.2.2.2) (Expr.ListComp.elim (motive_1:=λ_=>Expr×(List Comprehension)×Scope×Pos) a q (λx0 x1 x2 x3=>(x0,x1,x2,x3)))=a) a q (λ_ _ _ _ _=>rfl) q) (P2 p0 (P2 p1 (P2 p2 p3)))
noncomputable def cG(p0:Pr Expr)(p1:Pr (List Comprehension))(p2:Pr Scope)(p3:Pr Pos):Pr Expr:=cn Expr.ctorIdx 11 (λa q=>Expr.GeneratorExp.elim (motive_1:=λ_=>Expr×(List Comprehension)×Scope×Pos) a q (λx0 x1 x2 x3=>(x0,x1,x2,x3))) (λx=>.GeneratorExp x.1 x.2.1 x.2.2.1 x.2.2.2) (λa q=>Expr.GeneratorExp.elim (motive_1:=λa=>∀q,(λx:Expr×(List Comprehension)×Scope×Pos=>Expr.GeneratorExp x.1 x.2.1 x.2.2.1 x.2.2.2) (Expr.GeneratorExp.elim (motive_1:=λ_=>Expr×(List Comprehension)×Scope×Pos) a q (λx0 x1 x2 x3=>(x0,x1,x2,x3)))=a) a q (λ_ _ _ _ _=>rfl) q) (P2 p0 (P2 p1 (P2 p2 p3)))
noncomputable def ML(p0:Pr Arguments)(p1:Pr Expr)(p2:Pr Scope)(p3:Pr Pos):Pr Expr:=cn Expr.ctorIdx 4 (λa q=>Expr.Lambda.elim (motive_1:=λ_=>Arguments×Expr×Scope×Pos) a q (λx0 x1 x2 x3=>(x0,x1,x2,x3))) (λx=>.Lambda x.1 x.2.1 x.2.2.1 x.2.2.2) (λa q=>Expr.Lambda.elim (motive_1:=λa=>∀q,(λx:Arguments×Expr×Scope×Pos=>Expr.Lambda x.1 x.2.1 x.2.2.1 x.2.2.2) (Expr.Lambda.elim (motive_1:=λ_=>Arguments×Expr×Scope×Pos) a q (λx0 x1 x2 x3=>(x0,x1,x2,x3)))=a) a q (λ_ _ _ _ _=>rfl) q) (P2 p0 (P2 p1 (P2 p2 p3)))
noncomputable def M7(p0:Pr Expr)(p1:Pr Int)(p2:Pr (Option Expr))(p3:Pr Pos):Pr Expr:=cn Expr.ctorIdx 17 (λa q=>Expr.FormattedValue.elim (motive_1:=λ_=>Expr×Int×(Option Expr)×Pos) a q (λx0 x1 x2 x3=>(x0,x1,x2,x3))) (λx=>.FormattedValue x.1 x.2.1 x.2.2.1 x.2.2.2) (λa q=>Expr.FormattedValue.elim (motive_1:=λa=>∀q,(λx:Expr×Int×(Option Expr)×Pos=>Expr.FormattedValue x.1 x.2.1 x.2.2.1 x.2.2.2) (Expr.FormattedValue.elim (motive_1:=λ_=>Expr×Int×(Option Expr)×Pos) a q (λx0 x1 x2 x3=>(x0,x1,x2,x3)))=a) a q (λ_ _ _ _ _=>rfl) q) (P2 p0 (P2 p1 (P2 p2 p3)))
noncomputable def cJ(p0:Pr (List Expr))(p1:Pr Pos):Pr Expr:=cn Expr.ctorIdx 18 (λa q=>Expr.JoinedStr.elim (motive_1:=λ_=>(List Expr)×Pos) a q (λx0 x1=>(x0,x1))) (λx=>.JoinedStr x.1 x.2) (λa q=>Expr.JoinedStr.elim (motive_1:=λa=>∀q,(λx:(List Expr)×Pos=>Expr.JoinedStr x.1 x.2) (Expr.JoinedStr.elim (motive_1:=λ_=>(List Expr)×Pos) a q (λx0 x1=>(x0,x1)))=a) a q (λ_ _ _=>rfl) q) (P2 p0 p1)
noncomputable def cD(p0:Pr (List (Option Expr)))(p1:Pr (List Expr))(p2:Pr Pos):Pr Expr:=cn Expr.ctorIdx 6 (λa q=>Expr.Dict.elim (motive_1:=λ_=>(List (Option Expr))×(List Expr)×Pos) a q (λx0 x1 x2=>(x0,x1,x2))) (λx=>.Dict x.1 x.2.1 x.2.2) (λa q=>Expr.Dict.elim (motive_1:=λa=>∀q,(λx:(List (Option Expr))×(List Expr)×Pos=>Expr.Dict x.1 x.2.1 x.2.2) (Expr.Dict.elim (motive_1:=λ_=>(List (Option Expr))×(List Expr)×Pos) a q (λx0 x1 x2=>(x0,x1,x2)))=a) a q (λ_ _ _ _=>rfl) q) (P2 p0 (P2 p1 p2))
noncomputable def dA(p0:Pr (List Expr))(p1:Pr Expr)(p2:Pr Pos):Pr Stmt:=cn Stmt.ctorIdx 5 (λa q=>Stmt.Assign.elim (motive_2:=λ_=>(List Expr)×Expr×Pos) a q (λx0 x1 x2=>(x0,x1,x2))) (λx=>.Assign x.1 x.2.1 x.2.2) (λa q=>Stmt.Assign.elim (motive_2:=λa=>∀q,(λx:(List Expr)×Expr×Pos=>Stmt.Assign x.1 x.2.1 x.2.2) (Stmt.Assign.elim (motive_2:=λ_=>(List Expr)×Expr×Pos) a q (λx0 x1 x2=>(x0,x1,x2)))=a) a q (λ_ _ _ _=>rfl) q) (P2 p0 (P2 p1 p2))
noncomputable def dR(p0:Pr (Option Expr))(p1:Pr Pos):Pr Stmt:=cn Stmt.ctorIdx 3 (λa q=>Stmt.Return.elim (motive_2:=λ_=>(Option Expr)×Pos) a q (λx0 x1=>(x0,x1))) (λx=>.Return x.1 x.2) (λa q=>Stmt.Return.elim (motive_2:=λa=>∀q,(λx:(Option Expr)×Pos=>Stmt.Return x.1 x.2) (Stmt.Return.elim (motive_2:=λ_=>(Option Expr)×Pos) a q (λx0 x1=>(x0,x1)))=a) a q (λ_ _ _=>rfl) q) (P2 p0 p1)
noncomputable def dE(p0:Pr Expr)(p1:Pr Pos):Pr Stmt:=cn Stmt.ctorIdx 24 (λa q=>Stmt.Expr.elim (motive_2:=λ_=>Expr×Pos) a q (λx0 x1=>(x0,x1))) (λx=>.Expr x.1 x.2) (λa q=>Stmt.Expr.elim (motive_2:=λa=>∀q,(λx:Expr×Pos=>Stmt.Expr x.1 x.2) (Stmt.Expr.elim (motive_2:=λ_=>Expr×Pos) a q (λx0 x1=>(x0,x1)))=a) a q (λ_ _ _=>rfl) q) (P2 p0 p1)
noncomputable def dG(p0:Pr Expr)(p1:Pr Operator)(p2:Pr Expr)(p3:Pr Pos):Pr Stmt:=cn Stmt.ctorIdx 7 (λa q=>Stmt.AugAssign.elim (motive_2:=λ_=>Expr×Operator×Expr×Pos) a q (λx0 x1 x2 x3=>(x0,x1,x2,x3))) (λx=>.AugAssign x.1 x.2.1 x.2.2.1 x.2.2.2) (λa q=>Stmt.AugAssign.elim (motive_2:=λa=>∀q,(λx:Expr×Operator×Expr×Pos=>Stmt.AugAssign x.1 x.2.1 x.2.2.1 x.2.2.2) (Stmt.AugAssign.elim (motive_2:=λ_=>Expr×Operator×Expr×Pos) a q (λx0 x1 x2 x3=>(x0,x1,x2,x3)))=a) a q (λ_ _ _ _ _=>rfl) q) (P2 p0 (P2 p1 (P2 p2 p3)))
noncomputable def dI(p0:Pr Expr)(p1:Pr (List Stmt))(p2:Pr (List Stmt))(p3:Pr Pos):Pr Stmt:=cn Stmt.ctorIdx 12 (λa q=>Stmt.If.elim (motive_2:=λ_=>Expr×(List Stmt)×(List Stmt)×Pos) a q (λx0 x1 x2 x3=>(x0,x1,x2,x3))) (λx=>.If x.1 x.2.1 x.2.2.1 x.2.2.2) (λa q=>Stmt.If.elim (motive_2:=λa=>∀q,(λx:Expr×(List Stmt)×(List Stmt)×Pos=>Stmt.If x.1 x.2.1 x.2.2.1 x.2.2.2) (Stmt.If.elim (motive_2:=λ_=>Expr×(List Stmt)×(List Stmt)×Pos) a q (λx0 x1 x2 x3=>(x0,x1,x2,x3)))=a) a q (λ_ _ _ _ _=>rfl) q) (P2 p0 (P2 p1 (P2 p2 p3)))
noncomputable def dW(p0:Pr Expr)(p1:Pr (List Stmt))(p2:Pr (List Stmt))(p3:Pr Pos):Pr Stmt:=cn Stmt.ctorIdx 11 (λa q=>Stmt.While.elim (motive_2:=λ_=>Expr×(List Stmt)×(List Stmt)×Pos) a q (λx0 x1 x2 x3=>(x0,x1,x2,x3))) (λx=>.While x.1 x.2.1 x.2.2.1 x.2.2.2) (λa q=>Stmt.While.elim (motive_2:=λa=>∀q,(λx:Expr×(List Stmt)×(List Stmt)×Pos=>Stmt.While x.1 x.2.1 x.2.2.1 x.2.2.2) (Stmt.While.elim (motive_2:=λ_=>Expr×(List Stmt)×(List Stmt)×Pos) a q (λx0 x1 x2 x3=>(x0,x1,x2,x3)))=a) a q (λ_ _ _ _ _=>rfl) q) (P2 p0 (P2 p1 (P2 p2 p3)))
noncomputable def dF(p0:Pr Expr)(p1:Pr Expr)(p2:Pr (List Stmt))(p3:Pr (List Stmt))(p4:Pr Pos):Pr Stmt:=cn Stmt.ctorIdx 9 (λa q=>Stmt.For.elim (motive_2:=λ_=>Expr×Expr×(List Stmt)×(List Stmt)×Pos) a q (λx0 x1 x2 x3 x4=>(x0,x1,x2,x3,x4))) (λx=>.For x.1 x.2.1 x.2.2.1 x.2.2.2.1 x.2.2.2.2) (λa q=>Stmt.For.elim (motive_2:=λa=>∀q,(λx:Expr×Expr×(List Stmt)×(List Stmt)×Pos=>Stmt.For x.1 x.2.1 x.2.2.1 x.2.2.2.1 x.2.2.2.2) (Stmt.For.elim (motive_2:=λ_=>Expr×Expr×(List Stmt)×(List Stmt)×Pos) a q (λx0 x1 x2 x3 x4=>(x0,x1,x2,x3,x4)))=a) a q (λ_ _ _ _ _ _=>rfl) q) (P2 p0 (P2 p1 (P2 p2 (P2 p3 p4))))
noncomputable def dB(p0:Pr Pos):Pr Stmt:=cn Stmt.ctorIdx 26 (λa q=>Stmt.Break.elim (motive_2:=λ_=>Pos) a q (λx0=>x0)) (λx=>.Break x) (λa q=>Stmt.Break.elim (motive_2:=λa=>∀q,(λx:Pos=>Stmt.Break x) (Stmt.Break.elim (motive_2:=λ_=>Pos) a q (λx0=>x0))=a) a q (λ_ _=>rfl) q) p0
noncomputable def dP(p0:Pr Pos):Pr Stmt:=cn Stmt.ctorIdx 25 (λa q=>Stmt.Pass.elim (motive_2:=λ_=>Pos) a q (λx0=>x0)) (λx=>.Pass x) (λa q=>Stmt.Pass.elim (motive_2:=λa=>∀q,(λx:Pos=>Stmt.Pass x) (Stmt.Pass.elim (motive_2:=λ_=>Pos) a q (λx0=>x0))=a) a q (λ_ _=>rfl) q) p0
noncomputable def dX(p0:Pr Expr)(p1:Pr (Option Expr))(p2:Pr Pos):Pr Stmt:=cn Stmt.ctorIdx 19 (λa q=>Stmt.Assert.elim (motive_2:=λ_=>Expr×(Option Expr)×Pos) a q (λx0 x1 x2=>(x0,x1,x2))) (λx=>.Assert x.1 x.2.1 x.2.2) (λa q=>Stmt.Assert.elim (motive_2:=λa=>∀q,(λx:Expr×(Option Expr)×Pos=>Stmt.Assert x.1 x.2.1 x.2.2) (Stmt.Assert.elim (motive_2:=λ_=>Expr×(Option Expr)×Pos) a q (λx0 x1 x2=>(x0,x1,x2)))=a) a q (λ_ _ _ _=>rfl) q) (P2 p0 (P2 p1 p2))
noncomputable def sC(p0:Pr Expr)(p1:Pr Expr)(p2:Pr (List Expr))(p3:Pr Int):Pr Comprehension:=cn (λ_=>0) 0 (λa _=>(a.target,a.iter,a.ifs,a.is_async)) (λx=>⟨x.1,x.2.1,x.2.2.1,x.2.2.2⟩) (λa _=>by cases a;rfl) (P2 p0 (P2 p1 (P2 p2 p3)))
noncomputable def sK(p0:Pr (Option Str))(p1:Pr Expr)(p2:Pr Pos):Pr Keyword:=cn (λ_=>0) 0 (λa _=>(a.arg,a.value,a.pos)) (λx=>⟨x.1,x.2.1,x.2.2⟩) (λa _=>by cases a;rfl) (P2 p0 (P2 p1 p2))
noncomputable def sA(p0:Pr Str)(p1:Pr (Option Expr))(p2:Pr Pos):Pr PySem.Arg:=cn (λ_=>0) 0 (λa _=>(a.arg,a.annotation,a.pos)) (λx=>⟨x.1,x.2.1,x.2.2⟩) (λa _=>by cases a;rfl) (P2 p0 (P2 p1 p2))
noncomputable def LB(p0:Pr (List PySem.Arg))(p1:Pr (List PySem.Arg))(p2:Pr (Option PySem.Arg))(p3:Pr (List PySem.Arg))(p4:Pr (List (Option Expr)))(p5:Pr (Option PySem.Arg))(p6:Pr (List Expr)):Pr Arguments:=cn (λ_=>0) 0 (λa _=>(a.posonlyargs,a.args,a.vararg,a.kwonlyargs,a.kw_defaults,a.kwarg,a.defaults)) (λx=>⟨x.1,x.2.1,x.2.2.1,x.2.2.2.1,x.2.2.2.2.1,x.2.2.2.2.2.1,x.2.2.2.2.2.2⟩) (λa _=>by cases a;rfl) (P2 p0 (P2 p1 (P2 p2 (P2 p3 (P2 p4 (P2 p5 p6))))))
noncomputable abbrev N(x:String):Pr Str:=L (Str.ofString x)
noncomputable def mC(o:Pr Expr)(m:String)(xs:Pr (List Expr)):Pr Expr:=W (cC (cA o (N m) H) xs nl H) λs=>s.1.2.2.endLine==s.2.2.2.line
set_option genInjectivity false in
set_option genSizeOf false in
inductive MF where
 | join | isalnum | decode | index | replace | find | translate
noncomputable def MF.name:MF->String
 | .join=>"join"
 | .isalnum=>"isalnum"
 | .decode=>"decode"
 | .index=>"index"
 | .replace=>"replace"
 | .find=>"find"
 | .translate=>"translate"
set_option genInjectivity false in
set_option genSizeOf false in
inductive Rg where
 | no | up | down
inductive SP where
 | resub | gjoin | btrans | b2a
 | repl (m:Nat) (z:List Nat)
set_option genInjectivity false in
set_option genSizeOf false in
inductive E where
 | none
 | bool (b:Bool)
 | int (i:Int)
 | str (l:List Nat)
 | bytes (l:List UInt8)
 | absent
 | var (x:String)
 | glob (x:String)
 | bin (op:Operator) (a b:E)
 | cmp (op:CmpOp) (a b:E)
 | neg (a:E)
 | notE (a:E)
 | tv (a:E)
 | boolop (op:BoolOp) (es:List E)
 | andV (a b:E)
 | ite (t a b:E)
 | item (a i:E)
 | cut (a lo hi:E)
 | list (es:List E)
 | tup (es:List E)
 | spec (k:SP) (es:List E)
 | call (f:String) (es:List E)
 | bcall (f:BF) (es:List E)
 | meth (o:E) (m:MF) (es:List E)
 | imeth (o:E) (m:String) (es:List E)
 | comp (elt:E) (x:String) (aL:Rg) (it:E) (test:E) (an:List String)
 | comp2 (elt:E) (x:String) (aL:Rg) (it:E) (y:String) (gu:Rg) (cg:E) (an:List String)
 | fv (a:E)
 | fstr (es:List E)
noncomputable def E.eQ(e:E):Bool:=e.ctorIdx==5
set_option genInjectivity false in
set_option genSizeOf false in
structure aI where
 fn:String->List D->Option D
 me:MF->LV->List LV->Option D
 im:Addr->String->List D->Option D
 sp:SP->List LV->Option D
noncomputable def mW:List String:=["bytes","bytearray","str","bool","int","float","complex","list","tuple","dict","set","frozenset","range"]
noncomputable def qT(x:String):Option D:=
 if x∈mW then some (.ty x)
 else if x="_special_chars_map" then some (.ref 52)
 else if x="_B64" then some (.bytes jS)
 else none
theorem Hr{x:String}(hx:x∈mW):dr (Str.ofString x) (.type x):=
 have h:∀x∈mW,Str.ofString x∈ku/\Str.ofString x≠"__name__":=by decide+kernel
 sI (h x hx).1 (h x hx).2 (List.map_inj_left.mp (show mW.map (λx=>bootBuiltins (Str.ofString x))=mW.map λx=>some (.type x) by kernel_rfl) x hx)
theorem GI{x:String}{d:D}(h:qT x=some d):∃v,dr (Str.ofString x) v/\∀h O,ag h O v d:=by
 unfold qT at h
 by_cases hx:x∈mW
 ·rw[if_pos hx]at h
  exact aC h ⟨.type x,Hr hx,λ_ _=>.ty x⟩
 ·rw[if_neg hx]at h
  by_cases h1:x="_special_chars_map"
  ·rw[if_pos h1]at h
   exact h1▸aC h ⟨.ref 52,ej (by decide+kernel),λ_ _=>.ref 52⟩
  ·rw[if_neg h1]at h
   exact iE h λh2=>h2▸⟨.bytes jS 545,ej (by decide+kernel),λ_ _=>.bytes _ _⟩
noncomputable def fo(Z:Ctx):List String->Option (List (String×D))
 | []=>some []
 | x::r=>((find Z x).bind lD).bind λd=>(fo Z r).map ((x,d)::·)
noncomputable def jM:List LV->Option (List D)
 | []=>some []
 | l::r=>(lD l).bind λd=>(jM r).map (d::·)
noncomputable def MW(d:D):Option (List D):=(iB.m d).or ((pw.m d).map λb=>b.map λb=>.int b.toNat)
noncomputable def er:Rg->LV->Option (List D)
 | .up,l=>(cq l).bind λi=>if 0<=i/\i<=1000000 then some ((List.range i.toNat).map λj:Nat=>.int (j:Int))else none
 | .down,l=>(cq l).bind λi=>if i<=0/\-1000000<=i then some []else none
 | .no,l=>(lD l).bind MW
noncomputable def kh(f:D->Option (Option D)):List D->Option (List D)
 | []=>some []
 | d::r=>(f d).bind λo=>(kh f r).map (o.toList++·)
noncomputable def oH(g:D->Option (List D))(f:D->D->Option (Option D)):List D->Option (List D)
 | []=>some []
 | d::r=>(g d).bind λys=>(kh (f d) ys).bind λzs=>(oH g f r).map (zs++·)
noncomputable def rD:List LV->Option (List Nat)
 | []=>some []
 | a::r=>(br a).bind λx=>(rD r).map (x++·)
noncomputable def ME(a:LV):Option D:=(cq a).map λi=>.int (-i)
noncomputable def L7(ls:List LV):Option D:=(rD ls).bind λx=>if x.length<=1000000/\2<=ls.length then some (sd x)else none
noncomputable def MX(K:aI)(m:String)(ds:List D)(l:LV):Option D:=(gG MA l).bind λa=>K.im a m ds
noncomputable def Am(f:Ctx->Option LV)(x:String)(g:Ctx->Option Bool)(cs:List (String×D))(d:D):Option (Option D):=(g ((x,.d d)::b6 cs)).bind λt=>if t then((f ((x,.d d)::b6 cs)).bind lD).map some else some none
noncomputable def qM(h:Ctx->Option LV)(x:String)(aL:Rg)(cs:List (String×D))(d:D):Option (List D):=(h ((x,.d d)::b6 cs)).bind (er aL)
noncomputable def zM(f:Ctx->Option LV)(x y:String)(cs:List (String×D))(d d2:D):Option (Option D):=((f ((y,.d d2)::(x,.d d)::b6 cs)).bind lD).map some
mutual
noncomputable def pe(K:aI)(Z:Ctx):E->Option LV
 | .none=>some (.d .none)
 | .bool b=>some (.d (.bool b))
 | .int i=>some (.d (.int i))
 | .str l=>some (.d (sd l))
 | .bytes l=>some (.d (.bytes l.toArray))
 | .absent=>none
 | .var x=>find Z x
 | .glob x=>(qT x).map .d
 | .bin op a b=>(pe K Z a).bind λx=>(pe K Z b).bind λy=>(cX op x y).map .d
 | .cmp op a b=>(pe K Z a).bind λx=>(pe K Z b).bind λy=>(dg op x y).map λb=>.d (.bool b)
 | .neg a=>(pe K Z a).bind λx=>(ME x).map .d
 | .notE _=>none
 | .tv _=>none
 | .boolop _ _=>none
 | .andV a b=>(pe K Z a).bind λx=>(mD x).bind λt=>if t then pe K Z b else some (.d (.bool false))
 | .ite t a b=>(pt K Z t).bind λc=>if c then pe K Z a else pe K Z b
 | .item a i=>(pe K Z a).bind λx=>(pe K Z i).bind λy=>(hW x y).map .d
 | .cut a lo hi=>(pe K Z a).bind λx=>(if lo.eQ then some none else((pe K Z lo).bind cq).map some).bind λl=>
   (if hi.eQ then some none else((pe K Z hi).bind cq).map some).bind λh=>(ms x l h).map .d
 | .list es=>((dO K Z es).bind jM).bind λds=>if ds.length<=1000000 then some (.d (.list ds))else none
 | .tup es=>((dO K Z es).bind jM).bind λds=>if ds.length<=1000000 then some (.d (.tup ds))else none
 | .spec _ _=>none
 | .call f es=>((dO K Z es).bind jM).bind λds=>(K.fn f ds).map .d
 | .bcall f es=>(dO K Z es).bind λls=>(l8 f ls).map .d
 | .meth o m es=>(pe K Z o).bind λa=>(dO K Z es).bind λls=>(K.me m a ls).map .d
 | .imeth o m es=>(pe K Z o).bind λa=>((dO K Z es).bind jM).bind λds=>(MX K m ds a).map .d
 | .comp elt x aL it test an=>((pe K Z it).bind (er aL)).bind λds=>(fo Z an).bind λcs=>if ds.length<=100000 then
   (kh (Am (λZ=>pe K Z elt) x (λZ=>if test.eQ then some true else pt K Z test) cs) ds).map λl=>.d (.list l)else none
 | .comp2 elt x aL it y gu cg an=>((pe K Z it).bind (er aL)).bind λds=>(fo Z an).bind λcs=>
   (oH (qM (λZ=>pe K Z cg) x gu cs) (zM (λZ=>pe K Z elt) x y cs) ds).bind λl=>if l.length<=100000 then some (.d (.list l))else none
 | .fv a=>((pe K Z a).bind br).bind λx=>if x.length<=1000000 then some (.d (sd x))else none
 | .fstr es=>(dO K Z es).bind λls=>(L7 ls).map .d
noncomputable def pt(K:aI)(Z:Ctx):E->Option Bool
 | .cmp op a b=>(pe K Z a).bind λx=>(pe K Z b).bind λy=>dg op x y
 | .notE a=>(pt K Z a).map (!·)
 | .tv a=>(pe K Z a).bind re
 | .boolop op es=>rK K Z op es
 | _=>none
noncomputable def rK(K:aI)(Z:Ctx):BoolOp->List E->Option Bool
 | .And,[]=>some true
 | .Or,[]=>some false
 | .And,e::r=>(pt K Z e).bind λb=>if b then rK K Z .And r else some false
 | .Or,e::r=>(pt K Z e).bind λb=>if b then some true else rK K Z .Or r
noncomputable def dO(K:aI)(Z:Ctx):List E->Option (List LV)
 | []=>some []
 | e::r=>(pe K Z e).bind λx=>(dO K Z r).map (x::·)
end
noncomputable def kP(e:Expr):Bool:=!(e.ctorIdx==7)
noncomputable def yx(e:Expr):Bool:=!(e.ctorIdx==3||e.ctorIdx==0||e.ctorIdx==5||e.ctorIdx==15)
noncomputable def jY(e:Expr):Bool:=!cm (cC (cN H H) nl nl H) e
noncomputable def AD:Expr->Bool:=cm (cN H H)
noncomputable def oW:List Expr->Bool:=λes=>decide (es.length < 20)
noncomputable def kr(sc:Scope)(x:Str):Bool:=sc.names.lookup x==some .globalImplicit
noncomputable def fj(sc:Scope)(x:Str):Bool:=sc.names.lookup x==some .local||sc.names.lookup x==some .cell
noncomputable def lP(x:String):Bool:=decide (x≠"%acc")&&!(Str.ofString x==("__debug__":Str))&&!(Str.ofString x==("__classdict__":Str))
noncomputable def qJ(sc:Scope)(x:String):Bool:=sc.names.lookup (Str.ofString x)==some .local
noncomputable def nm(x:String)(y:Str):Bool:=Str.ofString x==y
noncomputable def MG:Pr Expr:=u8 (cK (kS (L (S [92]))) H H) (L .Add) (vx (L .Or) (l2 (mC (cN (N "_m") H) "group" (l1 (cK (kI (L 1)) H H))) (cK (kS (L (S []))) H H)) H) H
noncomputable def MH:Pr Arguments:=LB nl (l1 (sA (N "_m") nn H)) nn nl nl nn nl
noncomputable def nw(args:Arguments)(body:Expr)(sc:Scope):Bool:=
 cm MH args&&cm MG body&&sc.names.length==1&&qJ sc "_m"&&sc.kind==.function&&!sc.isGenerator&&!sc.isCoroutine&&sc.more.isEmpty
noncomputable def jK(l:List Nat):Pr Expr:=cK (kS (L (S l))) H H
noncomputable def MJ:Pr Expr:=mC (mC (cN (N "s") H) "replace" (l2 (jK [92]) (jK [92,92]))) "replace" (l2 (jK [45]) (jK [92,45]))
noncomputable def oO(e:Expr):Bool:=cm MJ e
noncomputable def oZ(sc:Scope):Bool:=qJ sc "s"&&qJ sc ".0"&&sc.kind==.function&&sc.isGenerator&&!sc.isCoroutine&&sc.names.all λy=>y.2 !=.free&&y.2 !=.cell
noncomputable def nX{α β:Type}(p:Pr α)(f:p.S->β)(a:α):Option β:=(p.m a).map f
@[elab_as_elim] theorem o3{α β:Type}{p:Pr α}{f:p.S->β}{G:α->β->Prop}{a:α}{b:β}(h:nX p f a=some b)(k:∀s,G (p.b s) (f s)):G a b:=mE (P:=G a) h λs e=>p.ok e▸k s
noncomputable def vy:Pr (List Expr):=l1 (F λa=>!bP a)
noncomputable def JU(sc:Scope):Pr Expr:=mC (cN (N "_twin_re_1") (F λ_=>kr sc "_twin_re_1")) "sub" (cs (W (ML H H H (F λp=>p.line==lM.line&&p.col==lM.col)) λs=>nw s.1 s.2.1 s.2.2.1) vy)
noncomputable def JV:Pr Expr:=mC (jK [45]) "join" (l1 (cG (F oO) (l1 (sC (cN (N "s") H) (F λe=>AD e&&!bP e) nl (L 0))) (F oZ) (F λp=>p.line==lQ.line&&p.col==lQ.col)))
noncomputable def HT(sc:Scope):Pr Expr:=mC (F λo=>jY o&&!bP o) "translate" (l1 (mC (cN (N "bytes") (F λ_=>kr sc "bytes")) "maketrans" (cs (cK (kY (L [43,47])) H H) vy)))
noncomputable def LH(k:Nat)(z:List Nat):Pr Expr:=mC (F λo=>jY o&&!bP o) "replace" (l2 (jK [k]) (jK z))
noncomputable def MC(sc:Scope):Pr Expr:=cC (cN (N "b2a_base64") (F λ_=>kr sc "b2a_base64")) vy (l1 (sK (sm (N "newline")) (cK (kB (L false)) H H) H)) H
noncomputable def nf:SP->Scope->Expr->Option (List Expr)
 | .resub,sc,e=>nX (JU sc) (λs=>[s.1.2.1.2.1.1]) e
 | .gjoin,sc,e=>nX JV (λs=>[s.1.2.1.1.2.1.1.2.1.1]) e
 | .btrans,sc,e=>nX (HT sc) (λs=>[s.1.1.1.1,s.1.2.1.1.1.2.1.2.1.1]) e
 | .repl k z,sc,e=>nX (LH k z) (λs=>[s.1.1.1.1]) e
 | .b2a,sc,e=>nX (MC sc) (λs=>[s.2.1.1.1]) e
noncomputable def gl(sc:Scope)(x:String):Bool:=kr sc (Str.ofString x)&&!(Str.ofString x==("__debug__":Str))
noncomputable def Mv(sc:Scope)(k:Expr->Bool):Pr Expr:=cC (cN (N "range") (F λ_=>kr sc "range")) (l1 (F λb=>!bP b&&k b)) nl H
noncomputable def lf(sc:Scope)(aL:Rg)(k:Expr->Bool)(iter:Expr):Bool:=match aL with
 | .no=>k iter
 | .up=>cm (Mv sc k) iter
 | .down=>false
noncomputable def uW(b:Bool)(k:Expr->Bool)(l:Option Expr):Bool:=l.rec b λe=>!b&&k e
noncomputable def vq(b:Bool)(k:Expr->Bool)(l:List Expr):Bool:=l.rec b λe r _=>!b&&k e&&r.isEmpty
noncomputable def AT(sc:Scope)(aL:Rg)(k:Expr->Bool):Pr Expr:=F λiter=>kP iter&&lf sc aL k iter
noncomputable def vo(x:String):Pr Expr:=cN (N x) (F λ_=>decide (x≠"%acc"))
mutual
noncomputable def aN(sc:Scope):E->Expr->Bool
 | .none,e=>cm (cK kN H H) e
 | .bool b,e=>cm (cK (kB (L b)) H H) e
 | .int i,e=>cm (cK (kI (L i)) H H) e
 | .str l,e=>cm (jK l) e
 | .bytes l,e=>cm (cK (kY (L l)) H H) e
 | .absent,_=>false
 | .var x,e=>cm (cN (N x) (F λ_=>lP x)) e
 | .glob x,e=>cm (cN (N x) (F λ_=>gl sc x)) e
 | .bin op a b,e=>cm (u8 (F (aN sc a)) (L op) (F (aN sc b)) H) e
 | .cmp op a b,e=>cm (rE (F (aN sc a)) (l1 (L op)) (l1 (F λr=>aN sc b r&&!behindInMarks op r)) H) e
 | .neg a,e=>cm (nY (L .USub) (F (aN sc a)) H) e
 | .notE a,e=>cm (nY (L .Not) (F (aN sc a)) H) e
 | .tv a,e=>yx e&&aN sc a e
 | .boolop op es,e=>cm (vx (L op) (F (gy sc es)) H) e
 | .andV a b,e=>cm (vx (L .And) (l2 (F (aN sc a)) (F (aN sc b))) H) e
 | .ite t a b,e=>cm (vw (F (aN sc t)) (F (aN sc a)) (F (aN sc b)) H) e
 | .item a i,e=>cm (pn (F (aN sc a)) (F (aN sc i)) H) e
 | .cut a lo hi,e=>cm (pn (F (aN sc a)) (M6 (F (uW lo.eQ (aN sc lo))) (F (uW hi.eQ (aN sc hi))) nn H) H) e
 | .list es,e=>cm (cL (F (gy sc es)) H) e
 | .tup es,e=>cm (cT (F (gy sc es)) H H) e
 | .spec _ _,_=>false
 | .call f es,e=>cm (cC (cN (N f) (F λ_=>gl sc f)) (F (gy sc es)) nl H) e
 | .bcall f es,e=>cm (cC (cN (N f.name) (F λ_=>gl sc f.name)) (F (gy sc es)) nl H) e
 | .meth o m es,e=>cm (mC (F λo'=>aN sc o o'&&jY o') m.name (F λxs=>gy sc es xs&&oW xs)) e
 | .imeth o m es,e=>cm (mC (F λo'=>aN sc o o'&&jY o') m (F λxs=>gy sc es xs&&oW xs)) e
 | .comp elt x aL it test an,e=>cm (W (vu H (l1 (sC (vo x) (AT sc aL (aN sc it)) H (L 0))) H H) λs=>
   fj s.2.2.1 (Str.ofString x)&&lR sc s.2.2.1 an&&aN s.2.2.1 elt s.1&&vq test.eQ (aN s.2.2.1 test) s.2.1.1.2.2.1) e
 | .comp2 elt x aL it y gu cg an,e=>cm (W (vu H (l2 (sC (vo x) (AT sc aL (aN sc it)) nl (L 0)) (sC (vo y) H nl (L 0))) (F λ_=>decide (x≠y)) H) λs=>
   fj s.2.2.1.1 (Str.ofString x)&&fj s.2.2.1.1 (Str.ofString y)&&lR sc s.2.2.1.1 an&&aN s.2.2.1.1 elt s.1&&kP s.2.1.2.1.2.1&&lf s.2.2.1.1 gu (aN s.2.2.1.1 cg) s.2.1.2.1.2.1) e
 | .fv a,e=>cm (M7 (F (aN sc a)) (L (-1)) nn H) e
 | .fstr es,e=>cm (cJ (F (gy sc es)) H) e
noncomputable def gy(sc:Scope):List E->List Expr->Bool
 | [],es=>cm nl es
 | a::r,es=>cm (cs (F λe=>aN sc a e&&!bP e) (F (gy sc r))) es
end
section
theorem dN.refl(c:Cx):dN c c:=⟨rfl,rfl,rfl,rfl,rfl,rfl⟩
theorem dN.trans{a b c:Cx}(x:dN a b)(y:dN b c):dN a c:=⟨y.w.trans x.w,y.V.trans x.V,y.J.trans x.J,y.D.trans x.D,y.os.trans x.os,y.tz.trans x.tz⟩
theorem eP.eI{c c':Cx}(x:eP c c'):dN c c':=by exact cY x λp h am=>ab am<|⟨rfl,rfl,rfl,rfl,rfl,rfl⟩
noncomputable def kT(es:List Expr):Prop:=∀e∈es,bP e=false
theorem eD{e:Expr}{es:List Expr}{aa:Env}(h:bP e=false):starEach (e::es) aa=(false,eval e aa)::starEach es aa:=by
 cases e<;>first | rfl | (exact tF h)
theorem jq{aa:Env}{pos:Pos}{es:List Expr}(h:kT es):(backTo pos (starEach es aa)).any (·.1)=false:=by
 induction es with
 | nil=>rfl
 | cons e es ih=>
  exact ab (eD (h e List.mem_cons_self))<|ih λx hx=>h x (List.mem_cons_of_mem _ hx)
theorem FE{aa:Env}{pos:Pos}{es:List Expr}(h:kT es):((backTo pos (starEach es aa)).all λx=>!x.fst)=true:=by
 induction es with
 | nil=>rfl
 | cons e es ih=>
  exact ab (eD (h e List.mem_cons_self))<|ih λx hx=>h x (List.mem_cons_of_mem _ hx)
theorem oY{aa:Env}{pos:Pos}{args:List Expr}(h:kT args)(hl:oW args=true):
  ((((backTo pos (starEach args aa)).all λx=>!x.fst)&&(backToKw pos (keywordEach [] aa)).all λx=>x.fst.isSome)&&decide ((args.length+([]:List Keyword).length+if([]:List Keyword).isEmpty=true then 0 else 1) < 30))=true:=by
 rw[FE h]
 have:args.length < 20:=by simpa[oW]using hl
 show(true&&true&&decide (args.length+0+0 < 30))=true
 simp;exact Nat.le_trans ‹_› (Nat.le_add_left _ _)
theorem Ff{f:Expr}{xs:List Expr}{ks:List Keyword}{p:Pos}{name:Str}{aa:Env}{whole:Sem Value}(h:jY (.Call f xs ks p)=true):attributeBase (.Call f xs ks p) name aa whole=whole:=by
 cases f
 case Name=>
  cases xs with
  | cons _ _=>rfl
  | nil=>cases ks with
   | cons _ _=>rfl
   | nil=>exact fT h
 all_goals rfl
theorem oE{o:Expr}{name:Str}{aa:Env}{whole:Sem Value}(h:jY o=true):attributeBase o name aa whole=whole:=by
 cases o
 case Call=>exact Ff h
 all_goals rfl
theorem kD{e:Expr}{aa:Env}{v:Value}(h:kP e=true):foldedSetIterable e aa v=pure v:=by
 cases e
 case Set=>exact fT h
 all_goals rfl
theorem sv{e:Expr}{aa:Env}(h:yx e=true)(whole:Sem Value):isTrue e aa whole=(do let v <- whole;standAt e.pos;holding [v] (truthy v)):=by
 cases e<;>first | rfl | exact fT h
theorem zj(s:Expr)(o i:Value):subscripted s false o i=operate [o,i] (getItem o i)∨subscripted s false o i=operate [i,o] (getItem o i):=by
 cases s
 case Slice=>cases step with
  | none=>exact .inr rfl
  | some _=>exact .inl rfl
 all_goals exact .inl rfl
theorem lY{x:String}{y:Str}(h:nm x y=true):y=Str.ofString x:=(eq_of_beq h).symm
theorem mP{x:String}(h:lP x=true):eu x:=a3 h λh1 h2 h3=>⟨of_decide_eq_true h1,n1 h2,n1 h3⟩
theorem k5{sc:Scope}{x:String}(h:gl sc x=true):sc.names.lookup (Str.ofString x)=some .globalImplicit/\(Str.ofString x==("__debug__":Str))=false:=a2 h λh1 h2=>⟨eq_of_beq h1,n1 h2⟩
theorem gJ{sc:Scope}{x:Str}(h:fj sc x=true):sc.names.lookup x=some .local∨sc.names.lookup x=some .cell:=((Bool.or_eq_true _ _).mp h).imp eq_of_beq eq_of_beq
theorem qv{sc:Scope}{x:Str}(h:kr sc x=true):sc.names.lookup x=some .globalImplicit:=eq_of_beq h
noncomputable def ux(c:Cx)(n:Nat)(m:Str)(a:LV)(ls:List LV)(r:LV):Prop:=
 ∃T id,PlainAttrs T/\Slot T m id/\typeOf (.builtin id)=pure (.type "method_descriptor")/\(∀(ow:Ow) (s:Shared) v,bL c ow s.heap v a->s.TypeIs v T/\∀b,v=.ref b->∃ob,s.heap.get? b=some ob/\ob.dict=none)/\dm c n (.builtin id) (a::ls) r
noncomputable def AN(c:Cx)(n:Nat)(a:Addr)(m:Str)(ds:List D)(r:D):Prop:=
 ∀(aa:Env) (Z:Ctx) (o:Expr) (apos pos:Pos) (args:List Expr),Ev c n aa Z o (.d (.ref a))->Arg c n aa Z args pos (ds.map .d)->jY o=true->oW args=true->kT args->(apos.endLine==pos.line)=true->
  Ev c n aa Z (.Call (.Attribute o m apos) args [] pos) (.d r)
noncomputable def iQ(c:Cx)(n:Nat)(K:aI)(sc:Scope)(aa:Env):Prop:=∀(k:SP) (ls:List LV) (r:D),K.sp k ls=some r->∀c',eP c c'->
 ∀(Z:Ctx) (e:Expr) (xs:List Expr),nf k sc e=some xs->xs.length=ls.length->(∀k (h1:k < xs.length) (h2:k < ls.length),Ev c' n aa Z xs[k] ls[k])->Ev c' n aa Z e (.d r)
theorem iQ.ext{c c':Cx}{n:Nat}{K:aI}{sc:Scope}{aa:Env}(h:iQ c n K sc aa)(x:eP c c'):iQ c' n K sc aa:=λk ls r e c'' x'=>h k ls r e c'' (x.trans x')
structure bQ(c:Cx)(n:Nat)(K:aI):Prop where
 tz:c.tz
 fn:∀f ds r,K.fn f ds=some r->∃fa fd body,cV fa fd body/\dr (Str.ofString f) (.ref fa)/\Fn n fa ds r
 me:∀m a ls r,K.me m a ls=some r->∀c',dN c c'->ux c' n (Str.ofString m.name) a ls (.d r)
 im:∀a m ds r,K.im a m ds=some r->∀c',dN c c'->AN c' n a (Str.ofString m) ds r
theorem bQ.eI{c c':Cx}{n:Nat}{K:aI}(h:bQ c n K)(lk:dN c c'):bQ c' n K:=
 ⟨lk.tz▸h.tz,h.fn,λm a ls r e c'' lk'=>h.me m a ls r e c'' (lk.trans lk'),λa m ds r e c'' lk'=>h.im a m ds r e c'' (lk.trans lk')⟩
theorem tT{Z:Ctx}{l:List String}{cs:List (String×D)}(h:fo Z l=some cs):rH Z cs/\cs.map (·.1)=l:=by
 induction l generalizing cs with
 | nil=>exact aC h ⟨trivial,rfl⟩
 | cons x r ih=>exact bE h λd hd h=>bE hd λl h1 h2=>mE (P:=λcs=>rH Z cs/\cs.map (·.1)=x::r) h λcs' h3=>⟨⟨jF h2▸h1,(ih h3).1⟩,congrArg (x::·) (ih h3).2⟩
theorem Jw{l:List LV}{ds:List D}(h:jM l=some ds):l=ds.map .d:=by
 induction l generalizing ds with
 | nil=>exact aC h rfl
 | cons a r ih=>exact bE h λd hd h=>mE h λds' h1=>by rw[List.map_cons,<- ih h1,jF hd]
theorem tC{f:D->Option (Option D)}{ds aB:List D}(h:kh f ds=some aB):(∀d∈ds,∃o,f d=some o)/\aB=(ds.filter λd=>((f d).bind id).isSome).map λd=>((f d).bind id).getD .none:=by
 induction ds generalizing aB with
 | nil=>exact aC h ⟨(λ_ h=>nomatch h),rfl⟩
 | cons d r ih=>
  refine bE h λo ho h=>mE (P:=λaB=>_/\aB=_) h λys hy=>⟨λx hx=>?_,?_⟩
  ·exact(List.mem_cons.mp hx).elim (λe=>⟨o,e▸ho⟩) ((ih hy).1 x)
  ·rw[List.filter_cons,ho,(ih hy).2]
   cases o with
   | none=>rfl
   | some y=>show y::_=((f d).bind id).getD .none::_;rw[ho];rfl
theorem Ej{g:D->Option (List D)}{f:D->D->Option (Option D)}{ds aB:List D}(h:oH g f ds=some aB):(∀d∈ds,∃ys,g d=some ys/\∃zs,kh (f d) ys=some zs)/\aB=ds.flatMap λd=>(kh (f d) ((g d).getD [])).getD []:=by
 induction ds generalizing aB with
 | nil=>exact aC h ⟨(λ_ h=>nomatch h),rfl⟩
 | cons d r ih=>
  refine bE h λys hy h=>bE h λzs hz h=>mE (P:=λaB=>_/\aB=_) h λws hw=>⟨λx hx=>?_,?_⟩
  ·exact(List.mem_cons.mp hx).elim (λe=>e▸⟨ys,hy,zs,hz⟩) ((ih hw).1 x)
  ·rw[List.flatMap_cons,hy,Option.getD_some,hz,<- (ih hw).2];rfl
theorem Jh{ls:List LV}{x:List Nat}(h:rD ls=some x):∃xs:List (List Nat),ls=xs.map (λy=>.d (sd y))/\x=xs.flatten:=by
 induction ls generalizing x with
 | nil=>exact aC h ⟨[],rfl,rfl⟩
 | cons a r ih=>exact bE h λy h1 h=>mE h λz h2=>ah (ih h2) λxs e1 e2=>⟨y::xs,by rw[List.map_cons,<- e1,db h1],by rw[List.flatten_cons,<- e2]⟩
section
variable {c:Cx} {n:Nat} {aa:Env} {Z:Ctx}
theorem Gp{l:LV}{ds:List D}(h:er .no l=some ds):rY c n l ds:=bE h λd h1 h2=>jF h1▸ca h2 (λh=>iB.ok h▸tI _) λh=>mE h λb h=>pw.ok h▸EJ b
theorem Cz{l:LV}{ds:List D}(h:er .up l=some ds):∃k:Nat,l=.d (.int (k:Int))/\k<=1000000/\ds=(List.range k).map λj:Nat=>.int (j:Int):=by
 refine bE h λi h1 h2=>iE h2 λq=>?_
 exact⟨i.toNat,(Int.toNat_of_nonneg q.1).symm▸dL h1,by lia,rfl⟩
theorem Dn{l:LV}{ds:List D}(h:er .down l=some ds):∃i:Int,l=.d (.int i)/\i<=0/\-1000000<=i/\ds=[]:=by
 refine bE h λi h1 h2=>iE h2 λq=>?_
 exact⟨i,dL h1,q.1,q.2,rfl⟩
theorem Dt{es:List Expr}:∀(xs:List (List Nat)) (out:List Nat),out.length+xs.flatten.length<=1000000->(∀k,∀(h1:k < es.length) (h2:k < xs.length),Ev c n aa Z es[k] (.d (sd xs[k])))->es.length=xs.length->
  ∀(A:Around) (s:Shared) (Q:Value->Shared->Prop) (E:Value->Shared->Prop) (ow:Ow),bh n A->Inv c aa Z ow s->(∀v s',bL c ow s'.heap v (.d (sd (out++xs.flatten)))->Step c s s'->Q v s')->wpAny (model pg c.w) A (joinParts (S out) (evalEach es aa)) Q E s:=by
 induction es with
 | nil=>
  intro xs out hz eg hl A s Q E ow rm I k
  have:xs=[]:=by cases xs with | nil=>rfl | cons _ _=>cases hl
  subst this
  rw[List.flatten_nil,List.append_nil]at k
  exact joinParts_nil (k _ _ (.str _ _) (.tok I.ok _)) (by rw[dq,sizeLine_eq];simp at hz;exact Nat.le_trans ‹_› (Nat.le_add_left _ _))
 | cons e es ih=>
  intro xs out hz eg hl A s Q E ow rm I k
  cases xs with
  | nil=>cases hl
  | cons x xs=>
   have h0:Ev c n aa Z e (.d (sd x)):=eg 0 (Nat.succ_pos _) (Nat.succ_pos _)
   refine joinParts_cons (h0.run A s _ E ow rm I λv s1 rv al=>?_)
   refine ag.bw rv λt=>?_
   rw[List.flatten_cons,List.length_append]at hz
   refine⟨by rw[uQ,dq,List.length_append,sizeLine_eq];omega,?_⟩
   rw[uQ]
   refine ih xs (out++x) (by rw[List.length_append];omega) (λj h1 h2=>?_) (by simpa using hl) A s1 Q E ow rm (I.step al) λv s2 rv aG=>k v s2 ?_ (al.trans aG)
   ·have:=eg (j+1) (by simp;exact Nat.succ_le_of_lt ‹_›) (by simp;exact‹_›)
    simpa using this
   ·rw[List.flatten_cons,<- List.append_assoc];exact rv
theorem mY{aL:Rg}{it:E}{iter:Expr}{sc:Scope}{K:aI}{ds:List D}(ce:b9 sc aa)
  (hc:lf sc aL (aN sc it) iter=true)
  (he:(pe K Z it).bind (er aL)=some ds) (ih:∀{e l},aN sc it e=true->pe K Z it=some l->Ev c n aa Z e l):It c n aa Z iter ds:=by
 refine bE he λl h1 h2=>?_
 cases aL with
 | no=>exact uI (ih hc h1) (Gp h2)
 | down=>exact fT hc
 | up=>
  refine gV (Cz h2) λk e1 hk e2=>?_
  subst e1 e2
  exact aQ hc λs=>a2 s.2.1.1.2 λs1 s2=>xn (ce.g _ (qv s.1.2.2)) (ih s2 h1) hk (eD (n1 s1))
end
end
section
noncomputable def aZ(n:Nat)(K:aI)(a:E):Prop:=∀(sc:Scope) (e:Expr) (aa:Env) (c:Cx) (Z:Ctx) (l:LV),bQ c n K->b9 sc aa->aN sc a e=true->pe K Z a=some l->Ev c n aa Z e l
noncomputable def iR(n:Nat)(K:aI)(a:E):Prop:=∀(sc:Scope) (e:Expr) (aa:Env) (c:Cx) (Z:Ctx) (b:Bool),bQ c n K->b9 sc aa->aN sc a e=true->pt K Z a=some b->Cd c n aa Z e b
noncomputable def iS(n:Nat)(K:aI)(es:List E):Prop:=∀(sc:Scope) (xs:List Expr) (aa:Env) (c:Cx) (Z:Ctx) (ls:List LV),bQ c n K->b9 sc aa->gy sc es xs=true->dO K Z es=some ls->
 kT xs/\xs.length=ls.length/\(∀pos,Arg c n aa Z xs pos ls)/\∀k (h1:k < xs.length) (h2:k < ls.length),Ev c n aa Z xs[k] ls[k]
noncomputable def pE(n:Nat)(K:aI)(es:List E):Prop:=∀(op:BoolOp) (sc:Scope) (xs:List Expr) (aa:Env) (c:Cx) (Z:Ctx) (b:Bool),bQ c n K->b9 sc aa->gy sc es xs=true->rK K Z op es=some b->lg c n aa Z op xs b
section
variable {n:Nat} {K:aI}
theorem H5:aZ n K .none:=λsc e aa c Z l ok ce hc he=>aC he (aQ hc λs=>lE)
theorem Ic{b:Bool}:aZ n K (.bool b):=λsc e aa c Z l ok ce hc he=>aC he (aQ hc λs=>yU)
theorem Kg{i:Int}:aZ n K (.int i):=λsc e aa c Z l ok ce hc he=>aC he (aQ hc λs=>gP)
theorem Kd{x:List Nat}:aZ n K (.str x):=λsc e aa c Z l ok ce hc he=>aC he (aQ hc λs=>oP)
theorem F'{x:List UInt8}:aZ n K (.bytes x):=λsc e aa c Z l ok ce hc he=>aC he (aQ hc λs=>yf)
theorem Ex:aZ n K .absent:=λsc e aa c Z l ok ce hc he=>nS he
theorem Kb{x:String}:aZ n K (.var x):=λsc e aa c Z l ok ce hc he=>aQ hc λs=>bK he (mP s.2.2)
theorem H9{x:String}:aZ n K (.glob x):=λsc e aa c Z l ok ce hc he=>aQ hc λs=>mE he λd hd=>ah (GI hd) λv h1 h2=>EV h1 h2 (ce.g _ (k5 s.2.2).1) (k5 s.2.2).2
theorem Kj{op:Operator}{a b:E}(di:aZ n K a)(gD:aZ n K b):aZ n K (.bin op a b):=λsc e aa c Z l ok ce hc he=>
 aQ hc λs=>bE he λx hx he=>bE he λy hy he=>mE he λd hd=>ju (di sc _ aa c Z _ ok ce s.1.2 hx) (gD sc _ aa c Z _ ok ce s.2.2.1.2 hy) (Jp hd)
theorem Ki{op:CmpOp}{a b:E}(di:aZ n K a)(gD:aZ n K b):aZ n K (.cmp op a b):=λsc e aa c Z l ok ce hc he=>
 aQ hc λs=>bE he λx hx he=>bE he λy hy he=>mE he λd hd=>a2 s.2.2.1.1.2 λh2 h3=>qK (di sc _ aa c Z _ ok ce s.1.2 hx) (gD sc _ aa c Z _ ok ce h2 hy) (yY hd) (n1 h3)
theorem H2{op:CmpOp}{a b:E}(di:aZ n K a)(gD:aZ n K b):iR n K (.cmp op a b):=λsc e aa c Z l ok ce hc he=>
 aQ hc λs=>bE he λx hx he=>bE he λy hy he=>a2 s.2.2.1.1.2 λh2 h3=>i5 (di sc _ aa c Z _ ok ce s.1.2 hx) (gD sc _ aa c Z _ ok ce h2 hy) (yY he) (n1 h3)
theorem Ke{a:E}(di:aZ n K a):aZ n K (.neg a):=λsc e aa c Z l ok ce hc he=>
 aQ hc λs=>bE he λx hx he=>mE he λd hd=>mE hd λi hi=>ye (dL hi▸di sc _ aa c Z _ ok ce s.2.1.2 hx) (zz i)
theorem H1{a:E}(di:iR n K a):iR n K (.notE a):=λsc e aa c Z l ok ce hc he=>
 aQ hc λs=>mE he λb hb=>zP (di sc _ aa c Z _ ok ce s.2.1.2 hb)
theorem J9{a:E}(di:aZ n K a):iR n K (.tv a):=λsc e aa c Z l ok ce hc he=>
 a2 hc λh1 h2=>bE he λx hx he=>qo (di sc _ aa c Z _ ok ce h2 hx) (Hy he) (sv h1)
theorem Df{op:BoolOp}{es:List E}(ih:pE n K es):iR n K (.boolop op es):=λsc e aa c Z l ok ce hc he=>
 aQ hc λs=>mZ (ih _ sc _ aa c Z _ ok ce s.2.1.2 he)
theorem yV{c:Cx}{aa:Env}{Z:Ctx}{x y:Expr}{pos:Pos}{b:Bool}{l:LV}(h1:Ev c n aa Z x (.d (.bool b)))(h2:b=true->Ev c n aa Z y l)(h3:b=false->l=.d (.bool false)):Ev c n aa Z (.BoolOp .And [x,y] pos) l:=
 ⟨λA s Q E ow rm I h=>BoolOp_and (h1.run A s _ E ow rm I λv s1 rv al=>by
  refine ag.l9 rv (wpAny_truthy_bool ?_)
  cases b with
  | true=>exact BoolOp_one ((h2 rfl).run A s1 Q E ow rm (I.step al) λv s2 rv aG=>h v s2 rv (al.trans aG))
  | false=>rw[h3 rfl]at h;exact h _ _ (.bool false) al)⟩
theorem Ie{a b:E}(di:aZ n K a)(gD:aZ n K b):aZ n K (.andV a b):=λsc e aa c Z l ok ce hc he=>
 aQ hc λs=>bE he λx hx he=>bE he λb hb he=>yV (oR hb▸di sc _ aa c Z _ ok ce s.2.1.1.2 hx) (λe=>gD sc _ aa c Z _ ok ce s.2.1.2.1.2 (iP e he)) λe=>(Option.some.inj (iF e he)).symm
theorem Kf{t a b:E}(iht:iR n K t)(di:aZ n K a)(gD:aZ n K b):aZ n K (.ite t a b):=λsc e aa c Z l ok ce hc he=>
 aQ hc λs=>bE he λx hx he=>oQ (iht sc _ aa c Z _ ok ce s.1.2 hx) (λq=>di sc _ aa c Z _ ok ce s.2.1.2 (iP q he)) λq=>gD sc _ aa c Z _ ok ce s.2.2.1.2 (iF q he)
theorem H8{a i:E}(di:aZ n K a)(ihi:aZ n K i):aZ n K (.item a i):=λsc e aa c Z l ok ce hc he=>
 aQ hc λs=>bE he λx hx he=>bE he λy hy he=>mE he λd hd=>lF (di sc _ aa c Z _ ok ce s.1.2 hx) (ihi sc _ aa c Z _ ok ce s.2.1.2 hy) (Gs hd) (zj _)
theorem yI{sc:Scope}{aa:Env}{c:Cx}{Z:Ctx}{lo:E}{l:Option Expr}{o:Option Int}(ok:bQ c n K)(ce:b9 sc aa)(ih:aZ n K lo)
  (hc:uW lo.eQ (aN sc lo) l=true) (he:(if lo.eQ then some none else((pe K Z lo).bind cq).map some)=some o):Pt c n aa Z l o:=by
 cases l with
 | none=>exact aC (iP hc he) t5
 | some e=>exact a2 hc λh1 h2=>mE (iF (n1 h1) he) λi hi=>bE hi λx hx hi=>lz (dL hi▸ih sc _ aa c Z _ ok ce h2 hx)
theorem Kh{a lo hi:E}(di:aZ n K a)(ihl:aZ n K lo)(ihh:aZ n K hi):aZ n K (.cut a lo hi):=λsc e aa c Z l ok ce hc he=>
 aQ hc λs=>bE he λx hx he=>bE he λy hy he=>bE he λz hz he=>mE he λd hd=>Je (di sc _ aa c Z _ ok ce s.1.2 hx) (yI ok ce ihl s.2.1.1.2 hy) (yI ok ce ihh s.2.1.2.1.2 hz) hd
theorem qB{es:List E}(ih:iS n K es){sc:Scope}{xs:List Expr}{aa:Env}{c:Cx}{Z:Ctx}{ds:List D}(ok:bQ c n K)(ce:b9 sc aa)(hc:gy sc es xs=true)(he:(dO K Z es).bind jM=some ds):
  kT xs/\∀pos,Arg c n aa Z xs pos (ds.map .d):=
 bE he λls h1 h2=>Jw h2▸⟨(ih sc xs aa c Z ls ok ce hc h1).1,(ih sc xs aa c Z ls ok ce hc h1).2.2.1⟩
theorem H7{es:List E}(ih:iS n K es):aZ n K (.list es):=λsc e aa c Z l ok ce hc he=>
 aQ hc λs=>bE he λds h1 he=>iE he λq=>oD ((qB ih ok ce s.1.2 h1).2 _) q
theorem Kc{es:List E}(ih:iS n K es):aZ n K (.tup es):=λsc e aa c Z l ok ce hc he=>
 aQ hc λs=>bE he λds h1 he=>iE he λq=>KZ ((qB ih ok ce s.1.2 h1).2 _) q
theorem Ib{f:String}{es:List E}(ih:iS n K es):aZ n K (.call f es):=λsc e aa c Z l ok ce hc he=>
 aQ hc λs=>bE he λds h1 he=>mE he λr hr=>lh (ok.fn _ _ _ hr) λfa fd body F g hf=>bR (qB ih ok ce s.2.1.2 h1) λh3 h2=>
  IW F g (ce.g _ (k5 s.1.2.2).1) (h2 _) hf ok.tz (k5 s.1.2.2).2 (jq h3)
theorem Ga{f:BF}{es:List E}(ih:iS n K es):aZ n K (.bcall f es):=λsc e aa c Z l ok ce hc he=>
 aQ hc λs=>bE he λls h1 he=>mE he λr hr=>by
  have ob:=ih sc _ aa c Z ls ok ce s.2.1.2 h1
  have hg:=f.glob
  have hop:=G7 (c:=c) (n:=n) hr
  unfold BF.val at hg hop
  by_cases q:f.isType
  ·rw[if_pos q]at hop hg
   exact GT hg (ce.g _ (k5 s.1.2.2).1) (ob.2.2.1 _) hop (k5 s.1.2.2).2 (jq ob.1)
  ·rw[if_neg q]at hop hg
   exact ot hg (ce.g _ (k5 s.1.2.2).1) (ob.2.2.1 _) hop (k5 s.1.2.2).2 (jq ob.1)
theorem H6{o:E}{m:MF}{es:List E}(iho:aZ n K o)(ih:iS n K es):aZ n K (.meth o m es):=λsc e aa c Z l ok ce hc he=>
 aQ hc λs=>bE he λa ha he=>bE he λls h1 he=>mE he λr hr=>a2 s.1.1.1.2 λc1 c2=>a2 s.1.2.1.2 λc3 c4=>nM (ok.me _ _ _ _ hr c (.refl c)) λT id m1 m2 m3 m4 m5=>
  have ob:=ih sc _ aa c Z ls ok ce c3 h1
  qx (iho sc _ aa c Z _ ok ce c1 ha) m1 m2 m3 m4 (ob.2.2.1 _) m5 (oE c2) (oY ob.1 c4) s.2 (jq ob.1)
theorem F8{o:E}{m:String}{es:List E}(iho:aZ n K o)(ih:iS n K es):aZ n K (.imeth o m es):=λsc e aa c Z l ok ce hc he=>
 aQ hc λs=>bE he λa ha he=>bE he λds h1 he=>mE he λr hr=>a2 s.1.1.1.2 λc1 c2=>a2 s.1.2.1.2 λc3 c4=>bE hr λx e2 hr=>
  bR (qB ih ok ce c3 h1) λh3 h2=>ok.im _ _ _ _ hr c (.refl c) aa Z _ _ _ _ (iho sc _ aa c Z _ ok ce c1 (gQ e2▸ha)) (h2 _) c2 c4 h3 s.2
theorem LO{a:E}(di:aZ n K a):aZ n K (.fv a):=λsc e aa c Z l ok ce hc he=>
 aQ hc λs=>bE he λx h1 he=>bE h1 λy hy hx=>iE he λhz=>
  ⟨λA s1 Q E ow rm I k=>FormattedValue_plain ((di sc _ aa c Z _ ok ce s.1.2 hy).run A s1 _ E ow rm I λv s1 rv al=>by
   rw[db hx]at rv
   exact ag.bw rv λ_=>wpAny_with_toks (Nat.le_refl _) (formatField_str (λt' tk ht=>k _ _ (.str _ _) (al.trans (.tok I.ok _ ht))) (by rw[dq,sizeLine_eq];exact Nat.le_trans ‹_› (Nat.le_add_left _ _))))⟩
theorem IN{c:Cx}{aa:Env}{Z:Ctx}{vs:List Expr}{pos:Pos}{l:LV}(hl:2<=vs.length)(key:∀(A:Around) (s:Shared) (Q:Value->Shared->Prop) (E:Value->Shared->Prop) (ow:Ow),bh n A->Inv c aa Z ow s->(∀v s',bL c ow s'.heap v l->Step c s s'->Q v s')->wpAny (model pg c.w) A (joinParts (S []) (evalEach vs aa)) Q E s):Ev c n aa Z (.JoinedStr vs pos) l:=by
 cases vs with
 | nil=>exact absurd hl (Nat.not_succ_le_zero _)
 | cons v1 vs=>cases vs with
  | nil=>exact absurd (Nat.le_of_succ_le_succ hl) (Nat.not_succ_le_zero _)
  | cons v2 ao=>exact⟨λA s Q E ow rm I k=>JoinedStr_many (key A s Q E ow rm I k)⟩
theorem H'{es:List E}(ih:iS n K es):aZ n K (.fstr es):=λsc e aa c Z l ok ce hc he=>
 aQ hc λs=>bE he λls h1 he=>mE he λr hr=>bE hr λx hx hr=>iE hr λq=>ah (Jh hx) λxs e1 e2=>by
  subst e1 e2
  have ob:=ih sc _ aa c Z _ ok ce s.1.2 h1
  have h4:=ob.2.1
  exact IN (h4▸q.2) (Dt xs [] (Nat.le_trans (Nat.le_of_eq (Nat.zero_add _)) q.1) (λk a b=>by
   have:=ob.2.2.2 k a (by rw[List.length_map];exact b)
   rw[List.getElem_map]at this;exact this) (h4.trans (List.length_map _)))
inductive jJ(c:Cx)(n:Nat)(aa:Env)(Z:Ctx)(sc:Scope):Expr->LV->Prop
 | mk {elt target iter:Expr} {ifs:List Expr} {ao:List Comprehension} {aX:Scope} {pos:Pos} {cs:List (String×D)} {ds aB:List D} (k1:f7 sc aX Z cs) (k2:It c n aa Z iter ds) (k3:gN c n aX cs elt (⟨target,iter,ifs,0⟩::ao) pos ds aB) (k4:∀v,foldedSetIterable iter aa v=pure v):jJ c n aa Z sc (.ListComp elt (⟨target,iter,ifs,0⟩::ao) aX pos) (.d (.list aB))
theorem jJ.ev{c:Cx}{aa:Env}{Z:Ctx}{sc:Scope}{e:Expr}{l:LV}(ce:b9 sc aa)(h:jJ c n aa Z sc e l):Ev c n aa Z e l:=by
 cases h with | mk h1 h2 h3 h4=>exact ub ce h1 h2 h3 h4
theorem gN.id{c:Cx}{sc:Scope}{cs:List (String×D)}{e:Expr}{gs:List Comprehension}{pos:Pos}{ds aB:List D}(h:gN c n sc cs e gs pos (ds.map λd=>d) aB):gN c n sc cs e gs pos ds aB:=List.map_id' ds▸h
theorem LU{c:Cx}{aa:Env}{Z:Ctx}{e:Expr}{a:E}{d:D}(h:(pe K Z a).bind lD=some d)(k:∀l,pe K Z a=some l->Ev c n aa Z e l):Ev c n aa Z e (.d d):=bE h λl h1 h2=>jF h2▸k l h1
theorem JE{test:E}{sc:Scope}{ifs:List Expr}{aa:Env}{c:Cx}{Z:Ctx}{t:Bool}(iht:iR n K test)(ok:bQ c n K)(ce:b9 sc aa)(hc:vq test.eQ (aN sc test) ifs=true)(ht:(if test.eQ then some true else pt K Z test)=some t):n0 c n aa Z ifs t:=by
 cases ifs with
 | nil=>exact aC (iP hc ht) tX
 | cons t1 r=>
  cases r with
  | nil=>exact a3 hc λh1 h2 _=>tW (iht sc _ aa c Z _ ok ce h2 (iF (n1 h1) ht))
  | cons _ _=>exact a3 hc λ_ _ h=>fT h
theorem DB{f:Ctx->Option LV}{g:Ctx->Option Bool}{x:String}{cs:List (String×D)}{ds aB:List D}{sc aX:Scope}{c:Cx}{Z:Ctx}{elt iter:Expr}{ifs:List Expr}{px pos:Pos}(ho:kh (Am f x g cs) ds=some aB)(KK:f7 sc aX Z cs)(hz:ds.length<=100000)
  (hx:aX.names.lookup (Str.ofString x)=some .local∨aX.names.lookup (Str.ofString x)=some .cell) (hxa:x≠"%acc")
  (ht:∀c' bx Z t,dN c c'->b9 aX bx->g Z=some t->n0 c' n bx Z ifs t) (he:∀c' bx Z l,dN c c'->b9 aX bx->f Z=some l->Ev c' n bx Z elt l):
  gN c n aX cs elt [⟨.Name (Str.ofString x) px,iter,ifs,0⟩] pos ds aB:=by
 refine bR (tC ho) λp1 p2=>p2▸gN.id (qd (x:=x) ds (λd=>d) _ _ KK hz hx hxa λc' bx d lk bV hd=>?_)
 refine(p1 d hd).elim λo hf=>?_
 rw[hf]
 refine bE hf λt h hf=>?_
 cases t with
 | true=>exact mE hf λv hv=>⟨ht _ _ _ _ lk bV h,λ_=>bE hv λl h1 h2=>jF h2▸he _ _ _ _ lk bV h1⟩
 | false=>exact aC hf ⟨ht _ _ _ _ lk bV h,λh=>nomatch h⟩
@[elab_as_elim] theorem ym{elt it test:E}{x:String}{aL:Rg}{an:List String}{sc:Scope}{e:Expr}{G:Expr->Prop}(hc:aN sc (.comp elt x aL it test an) e=true)
  (k:∀elt' px iter ifs aX pos,x≠"%acc"->fj aX (Str.ofString x)=true->lR sc aX an=true->aN aX elt elt'=true->vq test.eQ (aN aX test) ifs=true->kP iter=true->lf sc aL (aN sc it) iter=true->G (.ListComp elt' [⟨.Name (Str.ofString x) px,iter,ifs,0⟩] aX pos)):G e:=
 aQ hc λs=>a4 s.2 λc3 c4 c5 c6=>a2 s.1.2.1.1.2.1.2 λc7 c8=>k _ _ _ _ _ _ (of_decide_eq_true s.1.2.1.1.1.2.2) c3 c4 c5 c6 c7 c8
theorem wL{elt it test:E}{x:String}{aL:Rg}{an:List String}(ihe:aZ n K elt)(ihi:aZ n K it)(iht:iR n K test)(sc:Scope)(e:Expr)(aa:Env)(c:Cx)(Z:Ctx)(l:LV)(ok:bQ c n K)(ce:b9 sc aa)
  (hc:aN sc (.comp elt x aL it test an) e=true) (he:pe K Z (.comp elt x aL it test an)=some l):jJ c n aa Z sc e l:=
 bE he λds gZ he=>bE he λcs jo he=>iO he λhz he=>mE he λaB ho=>bR (tT jo) λk1 k2=>ym hc λelt' px iter ifs aX pos c2 c3 c4 c5 c6 c7 c8=>
  have KK:=kM an k1 c4 k2
  ⟨KK,mY ce c8 gZ λ{e l} a b=>ihi sc e aa c Z l ok ce a b,DB ho KK hz (gJ c3) c2 (λc' bx Z t lk bV h=>JE iht (ok.eI lk) bV c6 h) (λc' bx Z l lk bV h=>ihe _ _ _ _ _ _ (ok.eI lk) bV c5 h),λv=>kD c7⟩
theorem Ei{f:D->Option D}{ds zs:List D}(h:kh (λd=>(f d).map some) ds=some zs):zs=ds.map λd=>(f d).getD .none:=by
 refine bR (tC h) λh1 h2=>?_
 rw[h2,List.filter_eq_self.mpr λd hd=>(h1 d hd).elim λo ho=>by
  cases hq:f d with
  | none=>rw[hq]at ho;exact nS ho
  | some v=>rfl]
 exact List.map_congr_left λd hd=>by cases f d<;>rfl
theorem CI{f h:Ctx->Option LV}{x y:String}{aL:Rg}{cs:List (String×D)}{ds aB:List D}{sc aX:Scope}{c:Cx}{Z:Ctx}{elt iter iter2:Expr}{px py pos:Pos}(ho:oH (qM h x aL cs) (zM f x y cs) ds=some aB)(KK:f7 sc aX Z cs)(hz:aB.length<=100000)
  (hx:aX.names.lookup (Str.ofString x)=some .local∨aX.names.lookup (Str.ofString x)=some .cell) (hxa:x≠"%acc") (hy:aX.names.lookup (Str.ofString y)=some .local∨aX.names.lookup (Str.ofString y)=some .cell) (hya:y≠"%acc") (ci:x≠y) (hs:kP iter2=true)
  (hi:∀c' bx Z ds,dN c c'->b9 aX bx->(h Z).bind (er aL)=some ds->It c' n bx Z iter2 ds) (he:∀c' bx Z l,dN c c'->b9 aX bx->f Z=some l->Ev c' n bx Z elt l):
  gN c n aX cs elt [⟨.Name (Str.ofString x) px,iter,[],0⟩,⟨.Name (Str.ofString y) py,iter2,[],0⟩] pos ds aB:=by
 refine bR (Ej ho) λp1 p2=>?_
 have e2:aB=ds.flatMap λd=>((qM h x aL cs d).getD []).map λd2=>((f ((y,.d d2)::(x,.d d)::b6 cs)).bind lD).getD .none:=by
  rw[p2,List.flatMap_def,List.flatMap_def]
  refine congrArg List.flatten (List.map_congr_left λd hd=>ah (p1 d hd) λys h1 h2=>h2.elim λzs h2=>?_)
  rw[h1,Option.getD_some,h2,Option.getD_some]
  exact Ei h2
 refine e2▸gN.id (E3 (x:=x) (y:=y) ds (λd=>d) (λd=>(qM h x aL cs d).getD []) (λ_ d2=>d2) _ KK (e2▸hz) hx hxa hy hya ci (λaa v=>kD hs) (λc' bx d lk bV hd=>?_) λc' bx d d2 lk bV hd hd2=>?_)
 ·refine ah (p1 d hd) λys h1 _=>?_
  rw[h1,Option.getD_some,List.map_id']
  exact hi _ _ _ _ lk bV h1
 ·refine ah (p1 d hd) λys h1 h2=>h2.elim λzs h2=>?_
  rw[h1,Option.getD_some]at hd2
  refine((tC h2).1 d2 hd2).elim λo hf=>ah (Option.map_eq_some_iff.mp hf) λv hv _=>?_
  rw[hv,Option.getD_some]
  exact bE hv λl h1 h2=>jF h2▸he _ _ _ _ lk bV h1
@[elab_as_elim] theorem E6{elt it cg:E}{x y:String}{aL gu:Rg}{an:List String}{sc:Scope}{e:Expr}{G:Expr->Prop}(hc:aN sc (.comp2 elt x aL it y gu cg an) e=true)
  (k:∀elt' px py iter iter2 aX pos,x≠"%acc"->y≠"%acc"->x≠y->fj aX (Str.ofString x)=true->fj aX (Str.ofString y)=true->lR sc aX an=true->aN aX elt elt'=true->kP iter2=true->lf aX gu (aN aX cg) iter2=true->kP iter=true->lf sc aL (aN sc it) iter=true->
   G (.ListComp elt' [⟨.Name (Str.ofString x) px,iter,[],0⟩,⟨.Name (Str.ofString y) py,iter2,[],0⟩] aX pos)):G e:=
 aQ hc λs=>a6 s.2 λc3 c6 c8 c9 c11 c13=>a2 s.1.2.1.1.2.1.2 λc10 c12=>k _ _ _ _ _ _ _ (of_decide_eq_true s.1.2.1.1.1.2.2) (of_decide_eq_true s.1.2.1.2.1.1.2.2) (of_decide_eq_true s.1.2.2.1.2) c3 c6 c8 c9 c11 c13 c10 c12
theorem wf{elt it cg:E}{x y:String}{aL gu:Rg}{an:List String}(ihe:aZ n K elt)(ihi:aZ n K it)(ihi2:aZ n K cg)(sc:Scope)(e:Expr)(aa:Env)(c:Cx)(Z:Ctx)(l:LV)(ok:bQ c n K)(ce:b9 sc aa)
  (hc:aN sc (.comp2 elt x aL it y gu cg an) e=true) (he:pe K Z (.comp2 elt x aL it y gu cg an)=some l):jJ c n aa Z sc e l:=
 bE he λds gZ he=>bE he λcs jo he=>bE he λaB ho he=>iE he λhz=>bR (tT jo) λk1 k2=>E6 hc λelt' px py iter iter2 aX pos c1 c2 c4 c3 c6 c8 c9 c11 c13 c10 c12=>
  have KK:=kM an k1 c8 k2
  ⟨KK,mY ce c12 gZ λ{e l} a b=>ihi sc e aa c Z l ok ce a b,CI ho KK hz (gJ c3) c1 (gJ c6) c2 c4 c11 (λc' bx Z ds lk bV h=>mY bV c13 h λ{e l} a b=>ihi2 _ e _ _ _ l (ok.eI lk) bV a b) (λc' bx Z l lk bV h=>ihe _ _ _ _ _ _ (ok.eI lk) bV c9 h),λv=>kD c10⟩
theorem Ia{elt it test:E}{x:String}{aL:Rg}{an:List String}(ihe:aZ n K elt)(ihi:aZ n K it)(iht:iR n K test):aZ n K (.comp elt x aL it test an):=λsc e aa c Z l ok ce hc he=>
 (wL ihe ihi iht sc e aa c Z l ok ce hc he).ev ce
theorem F9{elt it cg:E}{x y:String}{aL gu:Rg}{an:List String}(ihe:aZ n K elt)(ihi:aZ n K it)(ihi2:aZ n K cg):aZ n K (.comp2 elt x aL it y gu cg an):=λsc e aa c Z l ok ce hc he=>
 (wf ihe ihi ihi2 sc e aa c Z l ok ce hc he).ev ce
theorem H4:iS n K []:=λsc xs aa c Z ls ok ce hc he=>by
 exact aC he<|aQ hc λs=>⟨(λ_ h=>nomatch h),rfl,λ_=>gt,λk h=>absurd h (Nat.not_lt_zero _)⟩
theorem F7{a:E}{r:List E}(di:aZ n K a)(jj:iS n K r):iS n K (a::r):=λsc xs aa c Z ls ok ce hc he=>by
 refine aQ hc λs=>bE he λx hx he=>mE he λls' hl=>a2 s.1.2 λc1 c2=>?_
 have h0:=di sc _ aa c Z x ok ce c1 hx
 have ob:=jj sc _ aa c Z ls' ok ce s.2.2 hl
 refine⟨λy hy=>(List.mem_cons.mp hy).elim (λe=>e▸n1 c2) (ob.1 y),congrArg (·+1) ob.2.1,λpos=>gq h0 (ob.2.2.1 pos) (eD (n1 c2)),λk k1 k2=>?_⟩
 cases k with
 | zero=>exact h0
 | succ k=>exact ob.2.2.2 k (Nat.lt_of_succ_lt_succ k1) (Nat.lt_of_succ_lt_succ k2)
theorem H3:pE n K []:=λop sc xs aa c Z b ok ce hc he=>aQ hc λs=>by
 cases op with
 | And=>exact aC he and_nil
 | Or=>exact aC he or_nil
theorem F6{a:E}{r:List E}(di:iR n K a)(jj:pE n K r):pE n K (a::r):=λop sc xs aa c Z b ok ce hc he=>aQ hc λs=>a2 s.1.2 λc1 c2=>by
 cases op with
 | And=>
  refine bE he λt ht he=>?_
  have h0:=di sc _ aa c Z t ok ce c1 ht
  cases t with
  | true=>exact and_cons h0 λ_=>jj .And sc _ aa c Z b ok ce s.2.2 he
  | false=>exact aC he (and_cons (b:=true) h0 λh=>nomatch h)
 | Or=>
  refine bE he λt ht he=>?_
  have h0:=di sc _ aa c Z t ok ce c1 ht
  cases t with
  | true=>exact aC he (or_cons (b:=true) h0 λh=>nomatch h)
  | false=>exact or_cons h0 λ_=>jj .Or sc _ aa c Z b ok ce s.2.2 he
theorem J'{a:E}(h:∀Z,pt K Z a=none):iR n K a:=λsc e aa c Z b ok ce hc he=>nS ((h Z).symm.trans he)
theorem qH{a:E}(h:∀Z,pe K Z a=none):aZ n K a:=λsc e aa c Z b ok ce hc he=>nS ((h Z).symm.trans he)
end
mutual
theorem bG(n:Nat)(K:aI):∀a:E,aZ n K a
 | .none=>H5
 | .bool _=>Ic
 | .int _=>Kg
 | .str _=>Kd
 | .bytes _=>F'
 | .absent=>Ex
 | .var _=>Kb
 | .glob _=>H9
 | .bin _ a b=>Kj (bG n K a) (bG n K b)
 | .cmp _ a b=>Ki (bG n K a) (bG n K b)
 | .neg a=>Ke (bG n K a)
 | .notE _=>qH λ_=>rfl
 | .tv _=>qH λ_=>rfl
 | .boolop _ _=>qH λ_=>rfl
 | .andV a b=>Ie (bG n K a) (bG n K b)
 | .ite t a b=>Kf (jC n K t) (bG n K a) (bG n K b)
 | .item a i=>H8 (bG n K a) (bG n K i)
 | .cut a lo hi=>Kh (bG n K a) (bG n K lo) (bG n K hi)
 | .list es=>H7 (j8 n K es)
 | .tup es=>Kc (j8 n K es)
 | .spec _ _=>qH λ_=>rfl
 | .call _ es=>Ib (j8 n K es)
 | .bcall _ es=>Ga (j8 n K es)
 | .meth o _ es=>H6 (bG n K o) (j8 n K es)
 | .imeth o _ es=>F8 (bG n K o) (j8 n K es)
 | .comp elt _ _ it test _=>Ia (bG n K elt) (bG n K it) (jC n K test)
 | .comp2 elt _ _ it _ _ cg _=>F9 (bG n K elt) (bG n K it) (bG n K cg)
 | .fv a=>LO (bG n K a)
 | .fstr es=>H' (j8 n K es)
theorem jC(n:Nat)(K:aI):∀a:E,iR n K a
 | .cmp _ a b=>H2 (bG n K a) (bG n K b)
 | .notE a=>H1 (jC n K a)
 | .tv a=>J9 (bG n K a)
 | .boolop _ es=>Df (zw n K es)
 | .none | .bool _ | .int _ | .str _ | .bytes _ | .absent | .var _ | .glob _ | .bin .. | .neg _ | .andV .. | .ite .. | .item .. | .cut .. | .list _ | .tup _ | .spec .. | .call .. | .bcall .. | .meth .. | .imeth .. | .comp .. | .comp2 .. | .fv _ | .fstr _=>J' λ_=>rfl
theorem zw(n:Nat)(K:aI):∀es:List E,pE n K es
 | []=>H3
 | a::r=>F6 (jC n K a) (zw n K r)
theorem j8(n:Nat)(K:aI):∀es:List E,iS n K es
 | []=>H4
 | a::r=>F7 (bG n K a) (j8 n K r)
end
theorem G0{n:Nat}{K:aI}{a:E}{sc:Scope}{elt:Expr}{gens:List Comprehension}{aX:Scope}{pos:Pos}{aa:Env}{c:Cx}{Z:Ctx}{l:LV}(ok:bQ c n K)(ce:b9 sc aa)
  (hc:aN sc a (.ListComp elt gens aX pos)=true) (he:pe K Z a=some l):jJ c n aa Z sc (.ListComp elt gens aX pos) l:=by
 cases a
 case comp=>exact wL (bG n K _) (bG n K _) (jC n K _) sc _ aa c Z l ok ce hc he
 case comp2=>exact wf (bG n K _) (bG n K _) (bG n K _) sc _ aa c Z l ok ce hc he
 case tv=>exact nS he
 all_goals exact fT hc
end
section
theorem A0:entryFor table "list.__getattribute__"=some Builtin.«object.__getattribute__»:=
 entryFor_alias (id':="object.__getattribute__") (by kernel_rfl) (by decide+kernel) (by decide+kernel) (by kernel_rfl)
theorem v5:Slot "method_descriptor" "__get__" "method_descriptor.__get__":=
 .of (owner:="method_descriptor") (n:="__get__") (by rw[typeLookup_type,builtinLookup_eq_fast];kernel_rfl) (by decide+kernel) (by decide+kernel) (by decide+kernel)
  (by first | exact .inl (by decide+kernel) | exact .inr (by decide+kernel)) (by rw[isSubtype_type];kernel_rfl)
theorem Ce:entryFor table "method_descriptor.__get__"=some Builtin.«method_descriptor.__get__»:=entryFor_of_tree (by kernel_rfl)
theorem CU(a b c:Value):argsOk "method_descriptor.__get__" ⟨[a,b,c],[]⟩:=by unfold argsOk;kernel_rfl
theorem Kq:typeLookup (.type "method_descriptor") "__set__"=pure none:=by rw[typeLookup_type,builtinLookup_eq_fast];kernel_rfl
theorem ED:typeLookup (.type "method_descriptor") "__delete__"=pure none:=by rw[typeLookup_type,builtinLookup_eq_fast];kernel_rfl
theorem C4{id:String}(h:typeOf (.builtin id)=pure (.type "method_descriptor")):specialOf (.builtin id) "__get__"=pure (some (.builtin "method_descriptor.__get__")):=by
 unfold specialOf
 rw[h]
 show typeLookup (.type "method_descriptor") "__get__"=_
 exact v5.lookup
theorem vN{id:String}{x:Str}(h:typeOf (.builtin id)=pure (.type "method_descriptor"))(h2:typeLookup (.type "method_descriptor") x=pure none):specialOf (.builtin id) x=pure none:=by
 unfold specialOf
 rw[h]
 exact h2
theorem D0{id:String}(h:typeOf (.builtin id)=pure (.type "method_descriptor")):Builtin.ObjectAttr.takesStores (.builtin id)=pure false:=by
 unfold Builtin.ObjectAttr.takesStores
 rw[vN h Kq,vN h ED]
 rfl
section
variable {prog:Program} {w:World} {M:Model} {A:Around} {E:Value->Shared->Prop} {s:Shared} {a:Addr} {xs:Array Value} {k:Nat}
theorem Dr{P:Fin->Shared->Prop}(hx:s.heap.get? a=some {cls:=.type "list",dict:=none,data:=.seq xs k})
  (h:P (.done (.ret (.ref s.heap.objs.size))) {s with heap:=s.heap.push (d9 a)}):wpAny M A (Builtin.«method_descriptor.__get__» ⟨[.builtin "list.append",.ref a,.type "list"],[]⟩) P E s:=by
 unfold Builtin.«method_descriptor.__get__»
 refine wpAny_bind (wpAny_of_eq (a:=(.builtin "list.append",some (.ref a),some (.type "list"))) (by first | rfl | kernel_rfl) ?_)
 dsimp only
 refine KFB.if_not (by decide+kernel)<|wpAny_bind<|wpAny_bind (wpAny_of_eq (a:=(Str.ofString "append",Value.type "list")) (by first | rfl | kernel_rfl) ?_)
 refine wpAny_bind (wpAny_isInstance (T:="list") (U:="list") (b:=true) ⟨_,hx,rfl⟩ (by rw[isSubtype_type];kernel_rfl) ?_)
 refine KFB.if_not rfl<|wpAny_pure<|wpAny_bind ?_
 show wpAny M A (newObj (.type "builtin_function_or_method") (.fields #[.builtin "list.append",.ref a])) _ _ s
 exact wpAny_newObj_type (wpAny_pure h) (by size_fits)
theorem CF{Q:Builtin.ObjectAttr.Found->Shared->Prop}(hx:s.heap.get? a=some {cls:=.type "list",dict:=none,data:=.seq xs k})(h:Q (.bind (.builtin "method_descriptor.__get__") (.builtin "list.append")) s):
  wpAny M A (Builtin.ObjectAttr.find (.ref a) (.type "list") "append") Q E s:=by
 unfold Builtin.ObjectAttr.find
 refine wpAny_bind (wpAny_of_eq F.slot_list_append.lookup ?_)
 refine wpAny_bind (wpAny_of_eq (show Builtin.ObjectAttr.getOf (some (.builtin "list.append"))=pure (some (.builtin "method_descriptor.__get__"))from C4 F.type_list_append) ?_)
 have hd:Builtin.ObjectAttr.dataDescriptor? (some (.builtin "list.append")) (some (.builtin "method_descriptor.__get__"))=pure none:=by
  show(do if <- Builtin.ObjectAttr.takesStores (.builtin "list.append")then _ else _)=_
  rw[D0 F.type_list_append]
  rfl
 refine wpAny_bind (wpAny_of_eq hd ?_)
 show wpAny M A (Builtin.ObjectAttr.ownThenClass _ _ _ _) Q E s
 unfold Builtin.ObjectAttr.ownThenClass Builtin.ObjectAttr.inOwnDict Builtin.ObjectAttr.ownDict
 dsimp only
 refine wpAny_bind (wpAny_bind (wpAny_bind ?_))
 unfold loadHead
 refine wpAny_loadPart hx ?_
 dsimp only
 unfold instanceDict
 refine wpAny_bind (wpAny_loadPart hx ?_)
 dsimp only
 refine wpAny_pure<|wpAny_pure ?_
 dsimp only
 refine wpAny_bind (wpAny_of_eq (a:=()) rfl ?_)
 show wpAny M A (do rule _;pure _) Q E s
 exact wpAny_bind (wpAny_rule (wpAny_pure h))
theorem A4(a:Addr)(xs:Array Value)(k:Nat)(u:Tok):
  Meets (Builtin.«object.__getattribute__» ⟨[.ref a,.str "append" u],[]⟩) (λA R s=>s.heap.get? a=some {cls:=.type "list",dict:=none,data:=.seq xs k}/\R (.ok (.ret (.ref s.heap.objs.size))) {s with heap:=s.heap.push (d9 a)}):=
 Meets.of_wp λprog w A R s hs=>by
  obtain⟨hx,hs⟩:=hs
  unfold Builtin.«object.__getattribute__»
  refine wpAny_bind (wpAny_of_eq (a:=(.ref a,[.str "append" u])) (by first | rfl | kernel_rfl) ?_)
  dsimp only
  refine wpAny_bind (wpAny_of_eq (a:=Str.ofString "append") (by first | rfl | kernel_rfl) ?_)
  refine wpAny_bind (wpAny_typeOf (T:="list") ⟨_,hx,rfl⟩ ?_)
  refine wpAny_bind (CF hx ?_)
  dsimp only
  unfold Builtin.ObjectAttr.bindTo
  dsimp only
  refine wpAny_bind (wpAny_holding (wpAny_call_entry v5 F.type_list_append Ce (Dr hx ⟨_,rfl,wpAny_pure ⟨_,rfl,hs⟩⟩) (CU _ _ _)))
theorem Bi{Q:Value->Shared->Prop}(hx:s.heap.get? a=some {cls:=.type "list",dict:=none,data:=.seq xs k})(h:∀t,s.toks<=t->Q (.ref s.heap.objs.size) {s with heap:=s.heap.push (d9 a),toks:=t}):
  wpAny (model prog w) A (getAttr (.ref a) "append" true) Q E s:=by
 obtain⟨hp,g,d,tk,os⟩:=s
 have hT:∀gU,(⟨hp,g,d,gU,os⟩:Shared).TypeIs (.ref a) "list":=λ_=>⟨_,hx,rfl⟩
 have f3:=F.slot_list_getattribute.lookup
 have f4:=F.slot_list_getattribute.bind (.ref a)
 unfold getAttr getAttrBy
 repeat (any_goals (first | assumption | exact hT _ | ((with_reducible show wpAny _ _ (call (Value.builtin "list.__getattribute__") _ _) _ _ _);refine call_meets F.slot_list_getattribute (hT _) A0 (F.args_list_getattribute_2 _ _) (A4 a xs k _) ⟨hx,?_⟩) | wp_step))
 show wpAny (model prog w) A (handedOut (.ref _)) Q E _
 refine wpAny_of_eq (a:=.ref _) (by rfl) (h _ (Nat.le_succ _))
noncomputable def Eb:Manifest.Signature:=⟨.oneArg,"list.append","append",.self,[⟨"object",.posOnly,true⟩]⟩
theorem C6:Manifest.signature? "list.append"=some Eb:=by
 rw[signature?_of (id:="list.append") (n:=['d','n','e','p','p','a']) (o:=['t','s','i','l']) (by kernel_rfl) F.owner_list];kernel_rfl
theorem Cg{v:Value}{n:Nat}{Q:Unit->Shared->Prop}(hx:s.heap.get? a=some {cls:=.type "list",dict:=none,data:=.seq xs n})(h:Q () s):wpAny M A (checkBoundCall "list.append" ⟨[.ref a,v],[]⟩) Q E s:=by
 have hT:s.TypeIs (.ref a) "list":=⟨_,hx,rfl⟩
 have hk:builtinKind "list.append"=some .method:=by decide+kernel
 unfold checkBoundCall
 rw[C6,hk]
 dsimp only
 refine KFB.if_not (by decide)<|wpAny_bind (wpAny_isInstance (T:="list") (U:="module") (b:=false) hT (by rw[isSubtype_type];kernel_rfl) ?_)
 refine KFB.if_not (by decide+kernel)<|wpAny_bind (wpAny_bind (wpAny_loadPart hx ?_))
 dsimp only
 refine wpAny_pure<|KFB.if_not rfl<|wpAny_bind (wpAny_typeOf hT ?_)
 exact wpAny_of_eq (a:=()) (by kernel_rfl) h
theorem CO{b:Addr}{v:Value}{Q:Value->Shared->Prop}(hb:s.heap.get? b=some (d9 a))(hl:s.heap.PlainList a xs)
  (hQ:∀h',h'.PlainList a (xs.push v)->Heap.SameBut a s.heap h'->Q .none {s with heap:=h'}) (cj:xs.size<=1000000):wpAny (model prog w) A (call (.ref b) [v]) Q E s:=by
 obtain⟨n,ho⟩:=hl
 refine wpAny_call (codeAny_of_tree ?_)
 show wpAny _ A.in1 (callAny (.ref b) ⟨[v],[]⟩) _ _ s
 simp only[callAny]
 refine wpAny_bind (wpAny_load hb ?_)
 simp only[d9,show(Value.type "builtin_function_or_method"==Value.type "method"||Value.type "builtin_function_or_method"==Value.type "builtin_function_or_method"||Value.type "builtin_function_or_method"==Value.type "method-wrapper")=true by decide,if_true]
 refine KFB.if_so (by decide)<|wpAny_bind (Cg ho ?_)
 refine wpAny_bind (wpAny_pure (wpAny_pure ?_))
 refine⟨Code.quiet_builtin _ (by decide+kernel),codeAny_builtin F.entry_list_append ?_⟩
 show wpAny _ _ (updateSeq a (·.push v) >>= λ_=>ret .none) _ _ s
 refine wpAny_bind<|wpAny_updateSeq ho rfl (wpAny_pure (hQ _ ⟨n+1,?_⟩ (Heap.SameBut.update ..)))
 rw[Heap.get?_update_self _ ho (by rw[Obj.mapSeq_push_plain];rfl),Obj.mapSeq_push_plain]
theorem Bd{pos:Pos}{b:Addr}{args:List (Bool×Sem Value)}{Q:Value->Shared->Prop}(hplain:args.any (·.1)=false)
  (h:wpAny M A (evalArgs (.ref b) true args []) (λx aD=>aD.heap.get? b=some (d9 a)/\wpAny M A (call (.ref b) ([]++x.pos) x.kw) Q E aD) E s):wpAny M A (callWith pos (.ref b) [] args []) Q E s:=by
 unfold callWith
 refine wpAny_bind (wpAny_holding (wpAny_mono h (λx aD gw=>wpAny_bind (wpAny_standAt ?_)) λ_ _ x=>x))
 obtain⟨ho,hcall⟩:=gw
 simp only[hplain,List.any_nil,Bool.or_false]
 refine wpAny_bind (m:=keeperOf (.ref b)) ?_
 unfold keeperOf
 refine wpAny_bind (wpAny_load ho ?_)
 simp only[d9,show(Value.type "builtin_function_or_method"!=Value.type "method")=true by decide,show(Value.type "builtin_function_or_method"==Value.type "builtin_function_or_method"||Value.type "builtin_function_or_method"==Value.type "method-wrapper")=true by decide,if_true]
 exact wpAny_pure<|wpAny_bind (wpAny_mono hcall (λr ey hr=>wpAny_bind (wpAny_holding (wpAny_point (wpAny_pure hr)))) λ_ _ x=>x)
end
section
variable {prog:Program} {w:World} {A:Around} {E:Value->Shared->Prop} {s:Shared} {l:Addr} {items:Array Value}
theorem BU{t:Tok}{v:Value}{Q:Unit->Shared->Prop}(hl:PL s.heap l items)(hp:0 < items.size)
  (hQ:∀h',PL h' l (items.setIfInBounds (items.size - 1) v)->Heap.SameBut l s.heap h'->Q () {s with heap:=h'}):wpAny (model prog w) A (setItem (.ref l) (.int (-1) t) v) Q E s:=by
 obtain⟨n,ho⟩:=id hl
 have hT:=hl.isList.typeIs (s:=s)
 unfold setItem
 try with_reducible refine wpAny_holding ?_
 first | refine wpAny_bind (wpAny_pure ?_) | skip
 refine wpAny_bind (wpAny_sequenceKey hT (by decide) ?_)
 refine wpAny_bind (wpAny_callSpecial?_slot (name:=Str.ofString "__setitem__") hT slot_list_setitem
  (wpAny_call_entry slot_list_setitem hT entry_list_setitem ?_ (args_list_setitem _ _ _)))
 show wpAny _ _ (Builtin.List.listSubscript? (.int (-1) t) >>= _) _ _ s
 refine wpAny_bind (wpAny_listSubscript_int (fitsIndex_neg (by decide) (by decide)) ?_)
 have hidx:=seqIndex_neg (k:=-1) (n:=items.size) (by decide) (by omega)
 have hx:items[items.size - 1]? =some items[items.size - 1]:=Array.getElem?_eq_getElem (by omega)
 have hj:((-1:Int)+(items.size:Int)).toNat=items.size - 1:=by omega
 rw[hj]at hidx
 show wpAny _ _ ((Builtin.List.listItems (.ref l) >>= λxs=>pure ((seqIndex? (-1) xs.size).bind λi=>xs[i]?.map (i,·))) >>= _) _ _ s
 refine wpAny_bind (wpAny_bind ?_)
 show wpAny _ _ (seqItems? (.ref l) >>= _) _ _ s
 refine wpAny_bind (wpAny_seqItems ho rfl (wpAny_pure (wpAny_pure ?_)))
 rw[hidx]
 simp only[Option.bind_some,hx,Option.map_some]
 show wpAny _ _ (setSeqItemAt l (items.size - 1) v >>= _) _ _ s
 refine wpAny_bind (wpAny_setSeqItemAt ho rfl ?_)
 have hfin:PL (s.heap.update l (Obj.mapSeq (·.setIfInBounds (items.size - 1) v))) l (items.setIfInBounds (items.size - 1) v):=by
  refine⟨_,(Heap.get?_update_self _ ho (by rfl)).trans rfl⟩
 first
  | exact wpAny_bind (wpAny_pure (wpAny_pure ⟨.none,rfl,wpAny_pure (hQ _ hfin (Heap.SameBut.update ..))⟩))
  | exact wpAny_pure ⟨.none,rfl,wpAny_pure (hQ _ hfin (Heap.SameBut.update ..))⟩
end
section
variable {c:Cx} {n:Nat} {aa:Env} {Z:Ctx}
theorem Ef{x y:String}{p xp ap pos:Pos}{ds:List D}{P:az->Prop}(h0:find Z x=some (.own ds))(hy:cr c aa y)(hg:eu x)(h2:P (.next (upd Z y (.app x)))):
  bY c n aa Z (.Assign [.Name (Str.ofString y) p] (.Attribute (.Name (Str.ofString x) xp) "append" ap) pos) P:=by
 refine⟨?_⟩
 intro A s Q E ow rm I k
 refine wpAny_Assign_Name (Attribute_name (iX I h0 rm (λv r=>?_) hg)) rfl
 obtain⟨a,vs,rfl,ea,⟨j,hl⟩,rs⟩:=r
 refine Bi hl λt ht=>?_
 have st:Step c s {s with heap:=s.heap.push (d9 a),toks:=t}:=.push I.ok _ _ ht
 have I1:=I.step st
 refine p8 (l:=.app x) I1 hy ⟨_,a,rfl,ea,Heap.get?_push_size _ rfl,I.freshD⟩ λs2 I2=>k _ _ _ h2 ⟨ow,I2⟩
theorem JO{x y:String}{yp pos pos':Pos}{e:Expr}{ds:List D}{d:D}{P:az->Prop}(h0:find Z y=some (.app x))(h0':find Z x=some (.own ds))(h1:Ev c n aa Z e (.d d))(hz:ds.length<=1000000)(hs:bP e=false)(hg:eu y)
  (h2:P (.next (upd Z x (.own (ds++[d]))))):bY c n aa Z (.Expr (.Call (.Name (Str.ofString y) yp) [e] [] pos) pos') P:=by
 refine⟨?_⟩
 intro A s Q E ow rm I q
 refine wpAny_Expr_any ?_ (vE I) (by rfl)
 refine wpAny_Call_NameR (iX I h0 rm (λv r=>?_) hg)
 obtain⟨b,a,rfl,ea,hb,hD⟩:=r
 have dj:starEach [e] aa=[(false,eval e aa)]:=eD hs
 rw[dj]
 refine Bd (a:=a) rfl (Calls.evalArgs_plain (Calls.spliced_cons (h1.run A s _ E ow rm I λv s1 rv st=>Calls.spliced_nil ?_)))
 have hb1:s1.heap.get? b=some (d9 a):=st.kp.2 _ _ (λhv=>hD (I.ok.vd _ hv)) hb
 have I1:=I.step st
 obtain⟨a',vs,e1,hl,rs⟩:=lK I1 h0'
 rw[ea]at e1;cases e1
 refine⟨hb1,CO hb1 (xs:=vs.toArray) (by obtain⟨j,h⟩:=hl;exact⟨j,h⟩) (λh' fC iu=>?_) (by rw[List.size_toArray,rs.length];omega)⟩
 have ev:vs.toArray.push v=(vs++[v]).toArray:=by simp
 rw[ev]at fC
 exact q _ _ _ h2 ⟨ow,I1.turn h0' ea (by obtain⟨j,h⟩:=fC;exact⟨j,h⟩) iu (rs.snoc rv) s1.toks⟩
theorem IC{e:Expr}{p pos p2 p3 p4:Pos}{k k2:Nat}{i:Int}(hk:aa.kindOf "range"=some .globalImplicit)(h1:Ev c n aa Z e (.d (.int i)))(hi:i<=0)(eZ:-1000000<=i)(hs:bP e=false):
  It c n aa Z (.Call (.Name "range" p) [e,.Constant (.int 0) k p2,.UnaryOp .USub (.Constant (.int 1) k2 p3) p4] [] pos) []:=by
 intro A s Q E ow rm I h
 refine wpAny_Call_NameR (iU I wG hk (by decide+kernel) ?_)
 have ha:Arg c n aa Z [e,.Constant (.int 0) k p2,.UnaryOp .USub (.Constant (.int 1) k2 p3) p4] pos [.d (.int i),.d (.int 0),.d (.int (-1))]:=
  gq h1 (gq gP (gq qW gt)) (eD hs)
 have dt:(backTo pos (starEach [e,.Constant (.int 0) k p2,.UnaryOp .USub (.Constant (.int 1) k2 p3) p4] aa)).any (·.1)=false:=jq λx hx=>by
  simp only[List.mem_cons,List.not_mem_nil,or_false]at hx
  rcases hx with rfl | rfl | rfl
  ·exact hs
  ·rfl
  ·rfl
 refine PyProof.Rows.callWith_type dt (gi dt (ha A s _ E ow rm I λvs s1 rs al=>?_))
 refine aT.bn rs λ_ _ r1 ao=>aT.bn ao λ_ _ r2 ao=>aT.bn ao λ_ _ r3 ao=>aT.bO ao<|ag.bf r1 λt1=>ag.bf r2 λt2=>ag.bf r3 λt3=>call_range_3 (by decide) ?_ (.inl (PyProof.noPylong_small (by decide)))
 have aG:Step c s1 {s1 with heap:=s1.heap.push {cls:=.type "range",data:=.fields #[.int i t1,.int 0 t2,.int (-1) t3]},toks:=s1.toks}:=.push I.ok _ _
 refine vI rm ((I.step al).step aG) (a:=i) (b:=0) (st:=-1) (IsRange.new ..) (small_down (by lia) (by lia) (by decide) (by decide)) (k:=0) (by rw[rangeSize_downNat];lia) λit s' X=>h it _ s' (al.trans aG) X
theorem Ee{x:String}{xp up cp sp pos kp:Pos}{k k2:Nat}{ds:List D}{y:Str}{l:List Nat}{P:az->Prop}(h0:find Z x=some (.own ds))(hy:ds.getLast?=some (.str y))(hz:y.cps.size+l.length<=1000000)(hz2:ds.length<=1000000)(hg:eu x)
  (h2:P (.next (upd Z x (.own (ds.dropLast++[sd (y.cps.toList++l)]))))):
  bY c n aa Z (.AugAssign (.Subscript (.Name (Str.ofString x) xp) (.UnaryOp .USub (.Constant (.int 1) k cp) up) sp) .Add (.Constant (.str (S l)) k2 kp) pos) P:=by
 refine⟨?_⟩
 intro A s Q E ow rm I q
 refine wpAny_AugAssign_SubscriptAny (iX I h0 rm (λv r=>?_) hg)
 obtain⟨a,vs,rfl,ea,hl,rs⟩:=r
 refine qW.run (c:=c) (n:=n) (Z:=Z) A s _ E ow rm I λvi s1 ri al=>ag.bf ri λt=>?_
 have I1:=I.step al
 obtain⟨a',vs1,e1,eN,rs1⟩:=lK I1 h0
 rw[ea]at e1;cases e1
 have aV:=rs1.length
 have hpos:0 < ds.length:=by cases ds with | nil=>cases hy | cons _ _=>simp
 have hy':ds[ds.length - 1]? =some (.str y):=by rw[<- List.getLast?_eq_getElem?];exact hy
 obtain⟨v0,hv0,rv0⟩:=rs1.get hy'
 refine wpAny_getItem_list_neg (k:=-1) eN.isList (by decide) (by rw[List.size_toArray];lia) (by decide) (x:=v0) ?_ ?_
 ·rw[List.size_toArray,aV,show((-1:Int)+ds.length).toNat=ds.length - 1 by lia];simpa using hv0
 have ec:Ev c n aa Z (.Constant (.str (S l)) k2 kp) (.d (sd l)):=oP
 refine ec.run A s1 _ E ow rm I1 λvk s2 rk aG=>?_
 have I2:=I1.step aG
 rw[i6 y]at rv0
 have ic:=yK (c:=c) (n:=n) y.cps.toList l (by simpa using hz)
 refine ic aa Z A s2 _ E ow v0 vk rm I2 (by exact rv0.step I1.ok I1.bs aG) rk λvn s3 rn cI=>?_
 have I3:=I2.step cI
 obtain⟨a',vs3,e3,hl3,rs3⟩:=lK I3 h0
 rw[ea]at e3;cases e3
 have hlen3:=rs3.length
 refine BU hl3 (by rw[List.size_toArray];lia) λh' fC iu=>?_
 have ev:vs3.toArray.setIfInBounds (vs3.toArray.size - 1) vn=(vs3.dropLast++[vn]).toArray:=by
  rw[List.setIfInBounds_toArray,List.size_toArray]
  congr 1
  have:vs3≠[]:=by rintro rfl;simp at hlen3;lia
  conv=>lhs;rw[<- List.dropLast_concat_getLast this]
  rw[List.set_append_right _ _ (by simp)]
  simp
 rw[ev]at fC
 have rd:aq s3.heap (av c ow) vs3.dropLast ds.dropLast:=by
  rw[List.dropLast_eq_take,List.dropLast_eq_take,hlen3];exact rs3.take _
 exact q _ _ _ h2 ⟨ow,I3.turn h0 ea fC iu (rd.snoc rn) s3.toks⟩
end
end
section
set_option genInjectivity false in
set_option genSizeOf false in
inductive St where
 | assign (x:String) (e:E)
 | new (x:String)
 | assignS (x:String) (k:SP) (es:List E)
 | retS (k:SP) (es:List E)
 | append (x:String) (e:E)
 | bindapp (y x:String)
 | appc (y:String) (e:E)
 | augAdd (x:String) (e:E)
 | ifS (t:E) (b o:List St)
 | whileS (t:E) (b:List St)
 | forS (x:String) (aL:Rg) (it:E) (b:List St)
 | catLast (x:String) (l:List Nat)
 | ret (e:E)
 | brk
 | pass
 | assertS (t:E)
 | swap2 (x y:String) (e f:E)
 | swap3m (x y z:String) (e f:E)
 | swap3l (x y z:String) (e f:E)
 | freeze (x:String)
 | bad
noncomputable def d8(Z:Ctx)(x:String):Bool:=Z.all λp=>match p.2 with
 | .app y=>decide (y≠x)
 | _=>true
theorem mO{Z:Ctx}{x:String}(h:d8 Z x=true):dU Z x:=λp hp y e=>by
 have:=List.all_eq_true.mp h p hp
 rw[e]at this
 simpa using this
noncomputable def dK(t:Ctx->Option Bool)(b:Ctx->Option az):Nat->Ctx->Option az
 | 0,_=>none
 | k+1,Z=>match t Z with
  | none=>none
  | some false=>some (.next Z)
  | some true=>match b Z with
   | some (.next af)=>dK t b k af
   | some (.cont af)=>dK t b k af
   | some (.brk af)=>some (.next af)
   | some (.ret d)=>some (.ret d)
   | none=>none
noncomputable def gx(b:D->Ctx->Option az):List D->Ctx->Option az
 | [],Z=>some (.next Z)
 | d::r,Z=>match b d Z with
  | some (.next af)=>gx b r af
  | some (.cont af)=>gx b r af
  | some (.brk af)=>some (.next af)
  | some (.ret d)=>some (.ret d)
  | none=>none
noncomputable def uV:LV->Option D
 | .d d=>some d
 | .own ds=>some (.list ds)
 | .app _=>none
noncomputable def lA:LV->Option String
 | .app x=>some x
 | _=>none
noncomputable def mn(Z:Ctx)(x:String):Option (List D):=(find Z x).bind lO
noncomputable def AJ(Z:Ctx)(y:String):Option String:=(find Z y).bind lA
noncomputable def nx(k:Ctx->Option az)(o:Option az):Option az:=match o with
 | some (.next af)=>k af
 | o=>o
theorem MD{k:Ctx->Option az}{o:Option az}{r:az}{G:Prop}(h:nx k o=some r)(f:∀o1,o=some o1->(match o1 with | .next af=>k af=some r | _=>o1=r)->G):G:=by
 cases o with
 | none=>exact nS h
 | some o1=>
  refine f o1 rfl ?_
  cases o1 with
  | next _=>exact h
  | _=>exact Option.some.inj h
noncomputable def Ai(ds:List D):Option Str:=ds.getLast?.bind pS.m
theorem Gm{ds:List D}{y:Str}(h:Ai ds=some y):ds.getLast?=some (.str y):=bE h λd h1 h2=>h1.trans (congrArg some (pS.ok h2).symm)
mutual
noncomputable def jO(K:aI)(N:Nat)(Z:Ctx):St->Option az
 | .assign x e=>((pe K Z e).bind lD).map λd=>.next (upd Z x (.d d))
 | .assignS x k es=>((dO K Z es).bind λls=>K.sp k ls).map λd=>.next (upd Z x (.d d))
 | .retS k es=>((dO K Z es).bind λls=>K.sp k ls).map .ret
 | .new x=>if d8 Z x then some (.next (upd Z x (.own [])))else none
 | .append x e=>(mn Z x).bind λds=>((pe K Z e).bind lD).bind λd=>if ds.length<=1000000 then some (.next (upd Z x (.own (ds++[d]))))else none
 | .bindapp y x=>(mn Z x).map λ_=>.next (upd Z y (.app x))
 | .appc y e=>(AJ Z y).bind λx=>(mn Z x).bind λds=>((pe K Z e).bind lD).bind λd=>if ds.length<=1000000 then some (.next (upd Z x (.own (ds++[d]))))else none
 | .augAdd x e=>(find Z x).bind λa=>(pe K Z e).bind λb=>(uJ a b).map λd=>.next (upd Z x (.d d))
 | .ifS t b o=>(pt K Z t).bind λc=>if c then ps K N Z b else ps K N Z o
 | .whileS t b=>dK (λZ=>pt K Z t) (λZ=>ps K N Z b) N Z
 | .forS x aL it b=>((pe K Z it).bind (er aL)).bind λds=>gx (λd Z=>ps K N (upd Z x (.d d)) b) ds Z
 | .catLast x l=>(mn Z x).bind λds=>(Ai ds).bind λy=>if y.cps.size+l.length<=1000000/\ds.length<=1000000 then some (.next (upd Z x (.own (ds.dropLast++[sd (y.cps.toList++l)]))))else none
 | .ret e=>((pe K Z e).bind uV).map .ret
 | .brk=>some (.brk Z)
 | .pass=>some (.next Z)
 | .assertS t=>(pt K Z t).bind λc=>if c then some (.next Z)else none
 | .swap2 x y e f=>((pe K Z e).bind lD).bind λd1=>((pe K Z f).bind lD).map λd2=>.next (upd (upd Z y (.d d2)) x (.d d1))
 | .swap3m x y z e f=>((pe K Z e).bind lD).bind λd1=>((pe K (("%acc",.own [])::d5 Z "%acc") f).bind lD).bind λd3=>
   if d8 Z y&&d8 Z "%acc"&&(find Z "%acc").isNone then some (.next (upd (upd (upd Z z (.d d3)) y (.own [])) x (.d d1)))else none
 | .swap3l x y z e f=>((pe K Z e).bind lD).bind λd1=>((pe K Z f).bind lD).bind λd2=>
   if d8 Z z&&d8 Z "%acc"&&(find Z "%acc").isNone then some (.next (upd (upd (upd Z z (.own [])) y (.d d2)) x (.d d1)))else none
 | .freeze x=>(mn Z x).bind λds=>if d8 Z x then some (.next (upd Z x (.d (.list ds))))else none
 | .bad=>none
noncomputable def ps(K:aI)(N:Nat)(Z:Ctx):List St->Option az
 | []=>some (.next Z)
 | s::r=>nx (λaf=>ps K N af r) (jO K N Z s)
end
noncomputable def l6(sc:Scope)(x:Str):Bool:=sc.names.lookup x==some .local
noncomputable def Ak(sc:Scope)(x:Str):Bool:=sc.names.lookup x==some .cell
noncomputable def zD(e:Expr):Bool:=!(e.ctorIdx==8||e.ctorIdx==9||e.ctorIdx==10)
noncomputable def AB(y:Str)(i j:Nat)(sc:Scope):Bool:=i==j&&!(sc.names.any λ(n,k)=>n==y&&(k==.local||k==.cell))
noncomputable def MM(sc:Scope)(y:Str)(p:Pos):Pr Expr:=W (vu H H H H) λs=>Ak sc y||AB y p.line s.2.2.2.line s.2.2.1
noncomputable def Ap(sc:Scope)(y:Str)(p:Pos)(v:Expr):Bool:=zD v||cm (MM sc y p) v
noncomputable def Mu(sc:Scope)(k:Expr->Bool):Pr Expr:=cC (cN (N "range") (F λ_=>kr sc "range")) (l3 (F λb=>!bP b&&k b) (cK (kI (L 0)) H H) (nY (L .USub) (cK (kI (L 1)) H H) H)) nl H
noncomputable def yZ(sc:Scope)(aL:Rg)(it:E)(iter:Expr):Bool:=match aL with
 | .down=>cm (Mu sc (aN sc it)) iter
 | .no=>lf sc .no (aN sc it) iter
 | .up=>lf sc .up (aN sc it) iter
noncomputable def pj(k:SP)(sc:Scope)(v:Expr)(c:List Expr->Bool):Bool:=(nf k sc v).elim false c
theorem zN{k:SP}{sc:Scope}{v:Expr}{c:List Expr->Bool}(h:pj k sc v c=true):∃xs,nf k sc v=some xs/\c xs=true:=by
 unfold pj at h
 cases hq:nf k sc v with
 | none=>rw[hq]at h;exact fT h
 | some xs=>rw[hq]at h;exact⟨xs,rfl,h⟩
noncomputable def M4(s:St)(a b:Bool):Bool:=if s.ctorIdx==19 then a else b
noncomputable def AI(sc:Scope)(x:String)(k:Expr->Bool):Pr Stmt:=W (dA (l1 (cN (N x) (F λ_=>fj sc (Str.ofString x)))) (F k) H) λs=>Ap sc (Str.ofString x) s.1.1.2.1 s.2.1.1
noncomputable def AP(sc:Scope)(x y:String)(px py:Pos)(e f:Expr):Bool:=l6 sc (Str.ofString x)&&l6 sc (Str.ofString y)&&(py.line==px.line)&&!(bP e||bP f)&&!(Str.ofString y==Str.ofString x)&&!(foldedForSure 8 e&&foldedForSure 8 f)&&!(constantsAlone 8 e&&constantsAlone 8 f)
noncomputable def pu(sc:Scope)(x y z:String)(px py pz:Pos)(e f g:Expr):Bool:=l6 sc (Str.ofString x)&&l6 sc (Str.ofString y)&&l6 sc (Str.ofString z)&&(py.line==px.line&&pz.line==px.line)&&!(bP e||(bP f||bP g))&&!(Str.ofString y==Str.ofString x||Str.ofString z==Str.ofString x||Str.ofString z==Str.ofString y)&&
 (!(foldedForSure 8 e&&(foldedForSure 8 f&&foldedForSure 8 g))&&!(constantsAlone 8 e&&(constantsAlone 8 f&&constantsAlone 8 g)))
noncomputable def Az(x:String):Pr Pos:=F λ_=>decide (x≠"%acc")
noncomputable def AA(x y z:String):Pr (List Expr):=l1 (cT (l3 (cN (N x) H) (cN (N y) H) (cN (N z) (Az z))) H H)
mutual
noncomputable def jL(sc:Scope):St->Stmt->Bool
 | .assign x e,st=>cm (AI sc x (aN sc e)) st
 | .assignS x k es,st=>cm (AI sc x λv=>pj k sc v (gy sc es)) st
 | .retS k es,st=>cm (dR (sm (F λv=>pj k sc v (gy sc es))) H) st
 | .new x,st=>cm (dA (l1 (cN (N x) (F λ_=>fj sc (Str.ofString x)))) (cL nl H) H) st
 | .append x e,st=>cm (dE (mC (cN (N x) (F λ_=>lP x)) "append" (l1 (F λv=>aN sc e v&&!bP v))) H) st
 | .bindapp y x,st=>cm (dA (l1 (cN (N y) (F λ_=>fj sc (Str.ofString y)))) (cA (cN (N x) (F λ_=>lP x)) (N "append") H) H) st
 | .appc y e,st=>cm (dE (cC (cN (N y) (F λ_=>lP y)) (l1 (F λv=>aN sc e v&&!bP v)) nl H) H) st
 | .augAdd x e,st=>cm (dG (cN (N x) (F λ_=>fj sc (Str.ofString x)&&lP x)) (L .Add) (F (aN sc e)) H) st
 | .ifS t b o,st=>cm (dI (F (aN sc t)) (F (dz sc b)) (F (dz sc o)) H) st
 | .whileS t b,st=>cm (dW (F (aN sc t)) (F (dz sc b)) nl H) st
 | .forS x aL it b,st=>cm (dF (cN (N x) (F λ_=>fj sc (Str.ofString x))) (F λi=>kP i&&yZ sc aL it i) (F (dz sc b)) nl H) st
 | .catLast x l,st=>cm (dG (pn (cN (N x) (F λ_=>lP x)) (nY (L .USub) (cK (kI (L 1)) H H) H) H) (L .Add) (jK l) H) st
 | .ret e,st=>cm (dR (sm (F (aN sc e))) H) st
 | .brk,st=>cm (dB H) st
 | .pass,st=>cm (dP H) st
 | .assertS t,st=>cm (dX (F (aN sc t)) H H) st
 | .swap2 x y e f,st=>cm (W (dA (l1 (cT (l2 (cN (N x) H) (cN (N y) H)) H H)) (cT (l2 (F (aN sc e)) (F (aN sc f))) H H) H) λs=>AP sc x y s.1.1.1.1.2 s.1.1.1.2.1.2 s.2.1.1.1.1 s.2.1.1.2.1.1) st
 | .swap3m x y z e f,st=>cm (W (dA (AA x y z) (cT (l3 (F (aN sc e)) (cL nl (Az y)) (F (aN sc f))) H H) H) λs=>pu sc x y z s.1.1.1.1.2 s.1.1.1.2.1.2 s.1.1.1.2.2.1.2.1 s.2.1.1.1.1 (.List [] s.2.1.1.2.1.2.1) s.2.1.1.2.2.1.1) st
 | .swap3l x y z e f,st=>cm (W (dA (AA x y z) (cT (l3 (F (aN sc e)) (F (aN sc f)) (cL nl H)) H H) H) λs=>pu sc x y z s.1.1.1.1.2 s.1.1.1.2.1.2 s.1.1.1.2.2.1.2.1 s.2.1.1.1.1 s.2.1.1.2.1.1 (.List [] s.2.1.1.2.2.1.2)) st
 | .freeze _,_=>false
 | .bad,_=>true
noncomputable def dz(sc:Scope):List St->List Stmt->Bool
 | [],ss=>cm nl ss
 | s::r,ss=>M4 s (dz sc r ss) (cm (cs (F (jL sc s)) (F (dz sc r))) ss)
end
noncomputable def dD(n:Nat)(K:aI)(N:Nat)(s:St):Prop:=∀(sc:Scope) (st:Stmt) (aa:Env) (c:Cx) (Z:Ctx) (o:az),bQ c n K->iQ c n K sc aa->sc.kind=.function->bI c sc aa->jL sc s st=true->jO K N Z s=some o->bY c n aa Z st λo'=>o'=o
noncomputable def iI(n:Nat)(K:aI)(N:Nat)(r:List St):Prop:=∀(sc:Scope) (ss:List Stmt) (aa:Env) (c:Cx) (Z:Ctx) (o:az),bQ c n K->iQ c n K sc aa->sc.kind=.function->bI c sc aa->dz sc r ss=true->ps K N Z r=some o->bS c n aa Z ss λo'=>o'=o
theorem bY.mono{c:Cx}{n:Nat}{aa:Env}{Z:Ctx}{st:Stmt}{P P':az->Prop}(h:bY c n aa Z st P)(k:∀o,P o->P' o):bY c n aa Z st P':=⟨λA s Q E ow rm I q=>h.run A s Q E ow rm I λf s' o ho ok=>q f s' o (k o ho) ok⟩
theorem LW{l:LV}{y:String}(h:lA l=some y):l=.app y:=by
 cases l with
 | app x=>exact aC (P:=λy=>LV.app x=.app y) h rfl
 | _=>exact nS h
theorem oz{Z:Ctx}{x:String}{ds:List D}(h:mn Z x=some ds):find Z x=some (.own ds):=bE h λl h1 h2=>Aj h2▸h1
theorem Ju{Z:Ctx}{x y:String}(h:AJ Z y=some x):find Z y=some (.app x):=bE h λl h1 h2=>LW h2▸h1
theorem iW{sc:Scope}{x:Str}(h:l6 sc x=true):sc.names.lookup x=some .local:=eq_of_beq h
theorem Gv{sc:Scope}{x:Str}(h:Ak sc x=true):sc.names.lookup x=some .cell:=eq_of_beq h
section
variable {n:Nat} {K:aI} {N:Nat}
theorem ko{a:E}{sc:Scope}{e:Expr}{aa:Env}{c:Cx}{Z:Ctx}{d:D}(ok:bQ c n K)(ce:b9 sc aa)(hc:aN sc a e=true)(he:(pe K Z a).bind lD=some d):Ev c n aa Z e (.d d):=LU he λl h=>bG n K a sc e aa c Z l ok ce hc h
theorem wV{c:Cx}{sc0 sc:Scope}{aa:Env}{elt:Expr}{gens:List Comprehension}{pos p:Pos}{t:Str}{line:Nat}(eo:bI c sc0 aa)(hk:sc0.names.lookup t=some .cell):
  swapsWith (.ListComp elt gens sc pos) (some (.Name t p)) line aa=pure false:=by
 have e:swapsWith (.ListComp elt gens sc pos) (some (.Name t p)) line aa=pure (aa.blockKind==.function&&aa.kindOf t==some .local&&p.line==pos.line&&!(sc.names.any λ(n,k)=>n==t&&(k==.local||k==.cell))):=rfl
 rw[e,eo.kind hk]
 have:(some NameKind.cell==some NameKind.local)=false:=by rfl
 rw[this,Bool.and_false];rfl
theorem Ii{v:Expr}(h:zD v=true)(t:Option Expr)(line:Nat)(aa:Env):swapsWith v t line aa=pure false:=by
 cases v<;>first | rfl | exact fT h
theorem Lb{x:String}{sc aX:Scope}{a:Expr}{b:List Comprehension}{p pos cp:Pos}{aa:Env}{c:Cx}{Z:Ctx}{d:D}(hf:sc.kind=.function)(eo:bI c sc aa)(hl:fj sc (Str.ofString x)=true)(h3:AB (Str.ofString x) p.line cp.line aX=true)(hc:jJ c n aa Z sc (.ListComp a b aX cp) (.d d)):
  bY c n aa Z (.Assign [.Name (Str.ofString x) p] (.ListComp a b aX cp) pos) λo=>o=.next (upd Z x (.d d)):=by
 have hx:=gJ hl
 refine hx.elim (λq=>?_) λq=>tn (hc.ev eo.c) (eo.place hx) rfl (wV eo q)
 cases hc with
 | mk k1 k2 k3 k4=>exact wY eo.c k1 k2 k3 (eo.place hx) (xM eo hf q h3) rfl k4
theorem uf{x:String}{sc:Scope}{v:Expr}{p pos:Pos}{aa:Env}{c:Cx}{Z:Ctx}{d:D}(hf:sc.kind=.function)(eo:bI c sc aa)(hl:fj sc (Str.ofString x)=true)(ha:Ap sc (Str.ofString x) p v=true)(h1:Ev c n aa Z v (.d d))
  (hc:∀a b aX cp,v=.ListComp a b aX cp->jJ c n aa Z sc v (.d d)):bY c n aa Z (.Assign [.Name (Str.ofString x) p] v pos) λo=>o=.next (upd Z x (.d d)):=
 ((Bool.or_eq_true _ _).mp ha).elim (λh2=>tn h1 (eo.place (gJ hl)) rfl (Ii h2 _ _ _)) λh2=>by
  revert h1 hc
  exact aQ h2 λs h1 hc=>((Bool.or_eq_true _ _).mp s.2).elim (λh3=>tn h1 (eo.place (gJ hl)) rfl (wV eo (Gv h3))) λh3=>Lb hf eo hl h3 (hc _ _ _ _ rfl)
theorem Ep{x:String}{a:E}:dD n K N (.assign x a):=λsc st aa c Z o ok sp hf eo hc he=>
 aQ hc λs=>mE he λd hd=>uf hf eo s.1.1.1.2.2 s.2 (ko ok eo.c s.1.2.1.2 hd) λ_ _ _ _ e=>bE hd λl g1 g2=>jF g2▸e.symm▸G0 ok eo.c (e▸s.1.2.1.2) g1
theorem Af{k:SP}{es:List E}{sc:Scope}{aa:Env}{c:Cx}{Z:Ctx}{d:D}{v:Expr}(ok:bQ c n K)(sp:iQ c n K sc aa)(eo:bI c sc aa)(hc:pj k sc v (gy sc es)=true)(he:((dO K Z es).bind λls=>K.sp k ls)=some d):Ev c n aa Z v (.d d):=
 ah (zN hc) λxs hx h4=>bE he λls h1 hd=>have ob:=j8 n K es sc xs aa c Z ls ok eo.c h4 h1;sp k ls d hd c (.refl c) Z v xs hx ob.2.1 ob.2.2.2
theorem LP{k:SP}{sc aX:Scope}{a:Expr}{b:List Comprehension}{cp:Pos}{xs:List Expr}(h:nf k sc (.ListComp a b aX cp)=some xs):False:=by
 cases k<;>exact nS h
theorem Dd{x:String}{k:SP}{es:List E}:dD n K N (.assignS x k es):=λsc st aa c Z o ok sp hf eo hc he=>
 aQ hc λs=>mE he λd hd=>uf hf eo s.1.1.1.2.2 s.2 (Af ok sp eo s.1.2.1.2 hd) λ_ _ _ _ e=>ah (zN s.1.2.1.2) λxs hx _=>(LP ((congrArg (nf k sc) e).symm.trans hx)).elim
theorem HW{k:SP}{es:List E}:dD n K N (.retS k es):=λsc st aa c Z o ok sp hf eo hc he=>
 aQ hc λs=>mE he λd hd=>jX (Af ok sp eo s.1.2 hd) (.inl rfl) rfl
theorem JY{x:String}:dD n K N (.new x):=λsc st aa c Z o ok sp hf eo hc he=>
 aQ hc λs=>iE he λq=>Lz (mO q) (eo.place (gJ s.1.1.2.2)) rfl
theorem Es{x:String}{a:E}:dD n K N (.append x a):=λsc st aa c Z o ok sp hf eo hc he=>
 aQ hc λs=>bE he λds h1 he=>bE he λd h2 he=>iE he λq=>a2 s.1.1.2.1.1.2 λc4 c5=>FP (oz h1) (ko ok eo.c c4 h2) q rfl (eD (n1 c5)) s.1.2 (mP s.1.1.1.1.2.2)
theorem Dc{x y:String}:dD n K N (.bindapp y x):=λsc st aa c Z o ok sp hf eo hc he=>
 aQ hc λs=>mE he λds h1=>Ef (oz h1) (eo.place (gJ s.1.1.2.2)) (mP s.2.1.1.2.2) rfl
theorem HY{y:String}{a:E}:dD n K N (.appc y a):=λsc st aa c Z o ok sp hf eo hc he=>
 aQ hc λs=>bE he λx h0 he=>bE he λds h1 he=>bE he λd h2 he=>iE he λq=>a2 s.1.2.1.1.2 λc3 c4=>JO (Ju h0) (oz h1) (ko ok eo.c c3 h2) q (n1 c4) (mP s.1.1.2.2) rfl
theorem Eo{x:String}{a:E}:dD n K N (.augAdd x a):=λsc st aa c Z o ok sp hf eo hc he=>
 aQ hc λs=>bE he λv h0 he=>bE he λl h1 he=>mE he λd h2=>a2 s.1.2.2 λc2 c3=>LA h0 (bG n K a sc _ aa c Z l ok eo.c s.2.2.1.2 h1) (GA h2) (eo.place (gJ c2)) rfl (mP c3)
theorem LI{t:E}{b o':List St}(gD:iI n K N b)(iho:iI n K N o'):dD n K N (.ifS t b o'):=λsc st aa c Z o ok sp hf eo hc he=>
 aQ hc λs=>bE he λv h0 he=>nF (jC n K t sc _ aa c Z v ok eo.c s.1.2 h0) (λq=>gD sc _ aa c Z o ok sp hf eo s.2.1.2 (iP q he)) λq=>iho sc _ aa c Z o ok sp hf eo s.2.2.1.2 (iF q he)
noncomputable def AL(o:az)(M:Ctx->Prop):az->Prop
 | .next af=>M af
 | .cont af=>M af
 | .brk af=>o=.next af
 | .ret d=>o=.ret d
theorem Fh{t:Ctx->Option Bool}{b:Ctx->Option az}{k:Nat}{Z:Ctx}{o:az}{G:Prop}(h:dK t b (k+1) Z=some o)(k0:t Z=some false->o=.next Z->G)(k1:∀ob,t Z=some true->b Z=some ob->AL o (λaf=>dK t b k af=some o) ob->G):G:=by
 unfold dK at h
 cases ht:t Z with
 | none=>rw[ht]at h;exact nS h
 | some v=>
  rw[ht]at h
  cases v with
  | false=>exact k0 ht (Option.some.inj h).symm
  | true=>
   cases hb:b Z with
   | none=>rw[hb]at h;exact nS h
   | some ob=>
    rw[hb]at h
    refine k1 ob ht hb ?_
    cases ob with
    | next _=>exact h
    | cont _=>exact h
    | brk _=>exact(Option.some.inj h).symm
    | ret _=>exact(Option.some.inj h).symm
theorem F2{t:E}{b:List St}(gD:iI n K N b):dD n K N (.whileS t b):=λsc st aa c Z o ok sp hf eo hc he=>
 aQ hc λs=>HQ (λk af=>dK (λZ=>pt K Z t) (λZ=>ps K N Z b) k af=some o) N he λk af hM=>by
  cases k with
  | zero=>exact nS hM
  | succ k=>
   refine Fh hM (λh0 e=>⟨false,jC n K t sc _ aa c af _ ok eo.c s.1.2 h0,(λh=>nomatch h),λ_=>e.symm⟩) λob h0 hb hO=>⟨true,jC n K t sc _ aa c af _ ok eo.c s.1.2 h0,λ_=>(gD sc _ aa c af ob ok sp hf eo s.2.1.2 hb).mono λo' e=>?_,λh=>nomatch h⟩
   subst e
   cases o' with
   | next aF=>exact⟨k,Nat.lt_succ_self k,hO⟩
   | cont aF=>exact⟨k,Nat.lt_succ_self k,hO⟩
   | brk aF=>exact hO.symm
   | ret d=>exact hO.symm
theorem Gq{aL:Rg}{it:E}{iter:Expr}{sc:Scope}{aa:Env}{c:Cx}{Z:Ctx}{ds:List D}(ok:bQ c n K)(ce:b9 sc aa)(hc:yZ sc aL it iter=true)(he:(pe K Z it).bind (er aL)=some ds):It c n aa Z iter ds:=by
 cases aL with
 | no=>exact mY (aL:=.no) ce hc he λ{e l} p q=>bG n K it sc e aa c Z l ok ce p q
 | up=>exact mY (aL:=.up) ce hc he λ{e l} p q=>bG n K it sc e aa c Z l ok ce p q
 | down=>
  refine bE he λl h1 h2=>gC (Dn h2) λi e1 hi eZ e2=>?_
  subst e1 e2
  exact aQ hc λs=>a2 s.2.1.1.2 λc3 c4=>IC (ce.g _ (qv s.1.2.2)) (bG n K it sc _ aa c Z _ ok ce c4 h1) hi eZ (n1 c3)
theorem Db{x:String}{l:List Nat}:dD n K N (.catLast x l):=λsc st aa c Z o ok sp hf eo hc he=>
 aQ hc λs=>bE he λds h1 he=>bE he λy hy he=>iE he λq=>Ee (oz h1) (Gm hy) q.1 q.2 (mP s.1.1.2.2) rfl
theorem KG{b:D->Ctx->Option az}{ds:List D}{i:Nat}{d:D}{Z:Ctx}{o:az}{G:Prop}(h:gx b (ds.drop i) Z=some o)(hd:ds[i]? =some d)(k1:∀ob,b d Z=some ob->AL o (λaf=>gx b (ds.drop (i+1)) af=some o) ob->G):G:=by
 rw[List.drop_eq_getElem?_toList_append,hd]at h
 have h:gx b (d::ds.drop (i+1)) Z=some o:=h
 unfold gx at h
 cases hb:b d Z with
 | none=>rw[hb]at h;exact nS h
 | some ob=>
  rw[hb]at h
  refine k1 ob hb ?_
  cases ob with
  | next _=>exact h
  | cont _=>exact h
  | brk _=>exact(Option.some.inj h).symm
  | ret _=>exact(Option.some.inj h).symm
theorem JZ{x:String}{aL:Rg}{it:E}{b:List St}(gD:iI n K N b):dD n K N (.forS x aL it b):=λsc st aa c Z o ok sp hf eo hc he=>
 aQ hc λs=>bE he λds h0 he=>a2 s.2.1.2 λc3 c4=>by
  refine z9 (ds:=ds) (eo.place (gJ s.1.2.2)) (Gq ok eo.c c4 h0) (λi af=>gx (λd Z=>ps K N (upd Z x (.d d)) b) (ds.drop i) af=some o) he (λc' i af d ext hM hd=>KG hM hd λob hb hO=>?_) (λaf hM=>?_) (λv=>kD c3)
  ·refine(gD sc _ aa c' _ ob (ok.eI ext.eI) (sp.ext ext) hf (eo.ext ext) s.2.2.1.2 hb).mono λo' e=>?_
   subst e
   cases o' with
   | next aF=>exact hO
   | cont aF=>exact hO
   | brk aF=>exact hO.symm
   | ret d=>exact hO.symm
  ·rw[List.drop_length]at hM
   exact Option.some.inj hM
theorem JP{l:LV}{d:D}(h:uV l=some d):l=.d d∨∃ds,l=.own ds/\d=.list ds:=by
 cases l with
 | d x=>exact aC (P:=λd=>LV.d x=.d d∨_) h (.inl rfl)
 | own x=>exact aC (P:=λd=>_∨∃ds,LV.own x=.own ds/\d=.list ds) h (.inr ⟨x,rfl,rfl⟩)
 | _=>exact nS h
theorem JX{a:E}:dD n K N (.ret a):=λsc st aa c Z o ok sp hf eo hc he=>
 aQ hc λs=>mE he λd hd=>bE hd λl h1 h2=>jX (bG n K a sc _ aa c Z l ok eo.c s.1.2 h1) (JP h2) rfl
theorem J0:dD n K N .brk:=λsc st aa c Z o ok sp hf eo hc he=>aQ hc λs=>HR (Option.some.inj he)
theorem HX:dD n K N .pass:=λsc st aa c Z o ok sp hf eo hc he=>aQ hc λs=>JN (Option.some.inj he)
theorem Er{t:E}:dD n K N (.assertS t):=λsc st aa c Z o ok sp hf eo hc he=>
 aQ hc λs=>bE he λv h0 he=>iE he λq=>FO (q▸jC n K t sc _ aa c Z _ ok eo.c s.1.2 h0) rfl
theorem z8{e:Expr}{aa:Env}(h:bP e=false):starEach [e] aa=[(false,eval e aa)]:=eD h
theorem z7{e f:Expr}{aa:Env}(h1:bP e=false)(h2:bP f=false):starEach [e,f] aa=[(false,eval e aa),(false,eval f aa)]:=(eD h1).trans (congrArg _ (z8 h2))
theorem Lq{e f g:Expr}{aa:Env}(h:(!(bP e||(bP f||bP g)))=true):starEach [e,f,g] aa=[(false,eval e aa),(false,eval f aa),(false,eval g aa)]:=
 (Bool.or_eq_false_iff.mp (n1 h)).elim λs1 s2=>(Bool.or_eq_false_iff.mp s2).elim λs2 s3=>(eD s1).trans (congrArg _ (z7 s2 s3))
@[elab_as_elim] theorem HJ{x y:String}{e f:E}{sc:Scope}{st:Stmt}{G:Stmt->Prop}(hc:jL sc (.swap2 x y e f) st=true)(k:∀px py w1 w2 e' f' w3 w4 w5,AP sc x y px py e' f'=true->aN sc e e'=true->aN sc f f'=true->
  G (.Assign [.Tuple [.Name (Str.ofString x) px,.Name (Str.ofString y) py] w1 w2] (.Tuple [e',f'] w3 w4) w5)):G st:=
 aQ hc λs=>k _ _ _ _ _ _ _ _ _ s.2 s.1.2.1.1.1.2 s.1.2.1.1.2.1.2
theorem F3{x y:String}{e f:E}:dD n K N (.swap2 x y e f):=λsc st aa c Z o ok sp hf eo hc he=>
 bE he λd1 h1 he=>mE he λd2 h2=>HJ hc λpx py w1 w2 e' f' w3 w4 w5 h c10 c11=>a7 h λc3 c4 c5 c6 c7 c8 c9=>(Bool.or_eq_false_iff.mp (n1 c6)).elim λs1 s2=>
  yE (eo.place (.inl (iW c3))) (eo.place (.inl (iW c4))) (ko ok eo.c c10 h1) (ko ok eo.c c11 h2) rfl (xN eo hf (iW c3) (iW c4) c5 (n1 c6) (n1 c7) (n1 c8) (n1 c9)) (z7 s1 s2) (z8 s2)
@[elab_as_elim] theorem HH{x y z:String}{e f:E}{sc:Scope}{st:Stmt}{G:Stmt->Prop}(hc:jL sc (.swap3m x y z e f) st=true)(k:∀px py pz w1 w2 e' lp f' w3 w4 w5,pu sc x y z px py pz e' (.List [] lp) f'=true->aN sc e e'=true->aN sc f f'=true->z≠"%acc"->y≠"%acc"->
  G (.Assign [.Tuple [.Name (Str.ofString x) px,.Name (Str.ofString y) py,.Name (Str.ofString z) pz] w1 w2] (.Tuple [e',.List [] lp,f'] w3 w4) w5)):G st:=
 aQ hc λs=>k _ _ _ _ _ _ _ _ _ _ _ s.2 s.1.2.1.1.1.2 s.1.2.1.1.2.2.1.2 (of_decide_eq_true s.1.1.1.1.2.2.1.2.2) (of_decide_eq_true s.1.2.1.1.2.1.2.2)
@[elab_as_elim] theorem HI{x y z:String}{e f:E}{sc:Scope}{st:Stmt}{G:Stmt->Prop}(hc:jL sc (.swap3l x y z e f) st=true)(k:∀px py pz w1 w2 e' lp f' w3 w4 w5,pu sc x y z px py pz e' f' (.List [] lp)=true->aN sc e e'=true->aN sc f f'=true->z≠"%acc"->
  G (.Assign [.Tuple [.Name (Str.ofString x) px,.Name (Str.ofString y) py,.Name (Str.ofString z) pz] w1 w2] (.Tuple [e',f',.List [] lp] w3 w4) w5)):G st:=
 aQ hc λs=>k _ _ _ _ _ _ _ _ _ _ _ s.2 s.1.2.1.1.1.2 s.1.2.1.1.2.1.2 (of_decide_eq_true s.1.1.1.1.2.2.1.2.2)
theorem z6{x y z:String}{px py pz tp fy:Pos}{k k':Nat}{e f g:Expr}{sc:Scope}{aa:Env}{c:Cx}(eo:bI c sc aa)(hf:sc.kind=.function)(h:pu sc x y z px py pz e f g=true):cr c aa x/\cr c aa y/\cr c aa z/\
  swappedStores [.Tuple [.Name (Str.ofString x) px,.Name (Str.ofString y) py,.Name (Str.ofString z) pz] k tp] (.Tuple [e,f,g] k' fy) aa=pure (some [Str.ofString x,Str.ofString y,Str.ofString z])/\starEach [e,f,g] aa=[(false,eval e aa),(false,eval f aa),(false,eval g aa)]:=
 a7 h λc4 c5 c6 c7 c8 c9 c10=>a2 c10 λc10 c11=>⟨eo.place (.inl (iW c4)),eo.place (.inl (iW c5)),eo.place (.inl (iW c6)),Fx eo hf (iW c4) (iW c5) (iW c6) c7 (n1 c8) (n1 c9) (n1 c10) (n1 c11),Lq c8⟩
theorem El{x y z:String}{e f:E}:dD n K N (.swap3m x y z e f):=λsc st aa c Z o ok sp hf eo hc he=>
 bE he λd1 h1 he=>bE he λd3 h3 he=>iE he λq=>a3 q λq1 q2 q3=>HH hc λpx py pz w1 w2 e' lp f' w3 w4 w5 h c12 c13 c14 c15=>rP (z6 eo hf h) λp1 p2 p3 p4 p5=>
  FM p1 p2 p3 (mO q1) (mO q2) (Option.isNone_iff_eq_none.mp q3) ⟨c14,c15⟩ (ko ok eo.c c12 h1) (λc' ext=>ko (ok.eI ext.eI) (eo.ext ext).c c13 h3) rfl p4 p5
theorem Em{x y z:String}{e f:E}:dD n K N (.swap3l x y z e f):=λsc st aa c Z o ok sp hf eo hc he=>
 bE he λd1 h1 he=>bE he λd2 h2 he=>iE he λq=>a3 q λq1 q2 q3=>HI hc λpx py pz w1 w2 e' lp f' w3 w4 w5 h c12 c13 c14=>rP (z6 eo hf h) λp1 p2 p3 p4 p5=>
  FN p1 p2 p3 (mO q1) (mO q2) (Option.isNone_iff_eq_none.mp q3) c14 (ko ok eo.c c12 h1) (λc' ext=>ko (ok.eI ext.eI) (eo.ext ext).c c13 h2) rfl p4 p5
theorem En{x:String}:dD n K N (.freeze x):=λsc st aa c Z o ok sp hf eo hc he=>fT hc
theorem J1:dD n K N .bad:=λsc st aa c Z o ok sp hf eo hc he=>nS he
theorem HV:iI n K N []:=λsc ss aa c Z o ok sp hf eo hc he=>aQ hc λs=>aC he (ly rfl)
theorem Ax{s:St}{r:List St}{Z:Ctx}{o:az}{G:Prop}(h:ps K N Z (s::r)=some o)(k:∀o1,jO K N Z s=some o1->(match o1 with | .next af=>ps K N af r=some o | _=>o1=o)->G):G:=MD h k
theorem Ek{sc:Scope}{s:St}{r:List St}{ss:List Stmt}{aa:Env}{c:Cx}{Z:Ctx}{o:az}(ihs:dD n K N s)(jj:iI n K N r)(ok:bQ c n K)(sp:iQ c n K sc aa)(hf:sc.kind=.function)(eo:bI c sc aa)
  (hc:cm (cs (F (jL sc s)) (F (dz sc r))) ss=true) (he:ps K N Z (s::r)=some o):bS c n aa Z ss λo'=>o'=o:=
 aQ hc λq=>Ax he λo1 h1 h2=>g7 ((ihs sc _ aa c Z o1 ok sp hf eo q.1.2 h1).mono λo' e=>by
  subst e
  cases o' with
  | next af=>exact jj sc _ aa c af o ok sp hf eo q.2.2 h2
  | _=>exact h2)
theorem Da{x:String}{r:List St}(jj:iI n K N r):iI n K N (.freeze x::r):=λsc ss aa c Z o ok sp hf eo hc he=>
 Ax he λo1 h1 h2=>bE h1 λds h3 h4=>by
  revert h2
  exact iE h4 λhn h2=>CY (oz h3) (mO hn) (jj sc ss aa c _ o ok sp hf eo hc h2)
theorem F1{s:St}{r:List St}(ihs:dD n K N s)(jj:iI n K N r):iI n K N (s::r):=by
 by_cases hz:s.ctorIdx=19
 ·exact St.freeze.elim (motive_1:=λs=>iI n K N (s::r)) s hz λx=>Da jj
 ·exact λsc ss aa c Z o ok sp hf eo hc he=>Ek ihs jj ok sp hf eo (iF (beq_eq_false_iff_ne.mpr hz) hc) he
end
mutual
theorem uo(n:Nat)(K:aI)(N:Nat):∀s:St,dD n K N s
 | .assign ..=>Ep
 | .assignS ..=>Dd
 | .retS ..=>HW
 | .new _=>JY
 | .append ..=>Es
 | .bindapp ..=>Dc
 | .appc ..=>HY
 | .augAdd ..=>Eo
 | .ifS t b o=>LI (kX n K N b) (kX n K N o)
 | .whileS t b=>F2 (kX n K N b)
 | .forS x aL it b=>JZ (kX n K N b)
 | .catLast ..=>Db
 | .ret _=>JX
 | .brk=>J0
 | .pass=>HX
 | .assertS _=>Er
 | .swap2 ..=>F3
 | .swap3m ..=>El
 | .swap3l ..=>Em
 | .freeze _=>En
 | .bad=>J1
theorem kX(n:Nat)(K:aI)(N:Nat):∀r:List St,iI n K N r
 | []=>HV
 | s::r=>F1 (uo n K N s) (kX n K N r)
end
theorem iG{n:Nat}{K:aI}{fa:Addr}{fd:FuncData}{body:List Stmt}{names:List String}{ds:List D}{r:D}(N:Nat)(ir:List St)(F:cV fa fd body)
  (hY:∀vs:List Value,names.length=vs.length->bindArgs fd ⟨vs,[]⟩=pure ((names.map Str.ofString).zip vs)) (hl:names.length=ds.length) (gd:names.Nodup)
  (hp:∀x∈names,fd.scope.names.lookup (Str.ofString x)=some .local∨fd.scope.names.lookup (Str.ofString x)=some .cell)
  (hc:dz fd.scope ir body=true) (hK:∀c:Cx,c.tz->bQ c n K) (hS:∀(c:Cx) (aa:Env),c.tz->bI c fd.scope aa->q8 fd aa->iQ c n K fd.scope aa) (he:ps K N (names.zip (ds.map .d)) ir=some (.ret r)):Fn (n+1) fa ds r:=
 qV F hY hl gd hp λc aa tz eo ef=>kX n K N ir fd.scope body aa c _ _ (hK c tz) (hS c aa tz eo ef) F.kind eo hc he
end
noncomputable def sq:List St:=[
 .assign "rows" (.bin .Add (.list [(.list [(.int 62)]),(.list [(.int 5),(.int 63)]),(.list [(.int 5),(.int 7),(.int 62),(.int 1)]),(.list [(.int 63),(.int 0),(.int 9)])]) (.comp (.comp (.bin .Mod (.bin .FloorDiv (.bin .FloorDiv (.var "z") (.int 4)) (.bin .Pow (.int 64) (.var "k"))) (.int 64)) "k" .up (.bin .Add (.int 1) (.bin .Mod (.var "z") (.int 4))) .absent ["z"]) "z" .no (.var "drawn") .absent [])),
 .new "kept",
 .forS "row" .no (.var "rows") [
  .ifS (.boolop .And [(.cmp .NotIn (.var "row") (.var "kept")),(.cmp .Eq (.comp (.var "other") "other" .no (.var "rows") (.boolop .And [(.cmp .NotEq (.var "other") (.var "row")),(.cmp .Eq (.var "other") (.cut (.var "row") .absent (.bcall .len [(.var "other")])))]) ["row"]) (.list []))]) [
   .append "kept" (.var "row")] []],
 .ret (.var "kept")]
noncomputable def sk:List St:=[
 .assign "number" (.bcall .sum [(.comp (.bin .Mult (.item (.var "row") (.var "k")) (.bin .Pow (.int 64) (.bin .Sub (.int 3) (.var "k")))) "k" .up (.bcall .len [(.var "row")]) .absent ["row"])]),
 .assign "octets" (.bcall .bytes [(.list [(.bin .FloorDiv (.var "number") (.int 65536)),(.bin .Mod (.bin .FloorDiv (.var "number") (.int 256)) (.int 256)),(.bin .Mod (.var "number") (.int 256))])]),
 .ret (.bcall .list [(.cut (.meth (.call "b64encode" [(.var "octets"),(.var "other")]) .decode [(.str [97,115,99,105,105])]) .absent (.bcall .len [(.var "row")]))])]
noncomputable def pJ:List St:=[
 .assign "parts" (.comp (.ite (.cmp .In (.var "sign") (.str [91,42,63])) (.bin .Add (.bin .Add (.str [91]) (.var "sign")) (.str [93])) (.var "sign")) "sign" .no (.call "_law_signs" [(.var "front"),(.var "other")]) .absent []),
 .new "nexts",
 .forS "row" .no (.var "rows") [
  .ifS (.boolop .And [(.cmp .Eq (.cut (.var "row") .absent (.bcall .len [(.var "front")])) (.var "front")),(.cmp .NotIn (.item (.var "row") (.bcall .len [(.var "front")])) (.var "nexts"))]) [
   .append "nexts" (.item (.var "row") (.bcall .len [(.var "front")]))] []],
 .freeze "nexts",
 .assign "barred" (.comp (.item (.call "_law_signs" [(.bin .Add (.var "front") (.list [(.var "figure")])),(.var "other")]) (.neg (.int 1))) "figure" .no (.var "nexts") .absent ["front","other"]),
 .assign "barred" (.bin .Add (.bin .Add (.comp (.var "sign") "sign" .no (.var "barred") (.cmp .Eq (.var "sign") (.str [93])) []) (.comp (.var "sign") "sign" .no (.var "barred") (.cmp .NotIn (.var "sign") (.str [93,45])) [])) (.comp (.var "sign") "sign" .no (.var "barred") (.cmp .Eq (.var "sign") (.str [45])) [])),
 .ret (.meth (.str [46]) .join [(.bin .Add (.bin .Add (.var "parts") (.list [(.bin .Add (.bin .Add (.str [91,33]) (.meth (.str []) .join [(.var "barred")])) (.str [93]))])) (.bin .Mult (.list [(.str [63])]) (.bin .Sub (.int 3) (.bcall .len [(.var "front")]))))])]
noncomputable def Ng:List St:=[
 .swap2 "sign" "behind" (.cut (.var "inner") (.var "k") (.bin .Add (.var "k") (.int 1))) (.cut (.var "inner") (.bin .Add (.var "k") (.int 1)) (.bin .Add (.var "k") (.int 2))),
 .ifS (.cmp .Eq (.var "sign") (.str [92])) [
  .ret (.ite (.boolop .Or [(.cmp .Eq (.var "behind") (.str [])),(.tv (.meth (.var "behind") .isalnum []))]) .none (.var "behind"))] [],
 .ret (.ite (.boolop .Or [(.cmp .Eq (.var "sign") (.str [])),(.cmp .In (.var "sign") (.var "special"))]) .none (.var "sign"))]
noncomputable def pP:List St:=[
 .swap3m "inner" "items" "k" (.cut (.var "text") (.int 4) (.neg (.int 3))) (.int 0),
 .ifS (.cmp .NotEq (.var "text") (.bin .Add (.bin .Add (.str [40,63,115,58]) (.var "inner")) (.str [41,92,90]))) [
  .ret .none] [],
 .whileS (.cmp .Lt (.var "k") (.bcall .len [(.var "inner")])) [
  .swap3l "inside" "barred" "signs" (.cmp .Eq (.item (.var "inner") (.var "k")) (.str [91])) (.cmp .Eq (.cut (.var "inner") (.var "k") (.bin .Add (.var "k") (.int 2))) (.str [91,94])),
  .ifS (.cmp .Eq (.item (.var "inner") (.var "k")) (.str [46])) [
   .append "items" (.list [(.bool true),(.list [])]),
   .assign "k" (.bin .Add (.var "k") (.int 1))] [
   .assign "k" (.ite (.tv (.var "barred")) (.bin .Add (.var "k") (.int 2)) (.ite (.tv (.var "inside")) (.bin .Add (.var "k") (.int 1)) (.var "k"))),
   .whileS (.boolop .Or [(.cmp .Eq (.var "signs") (.list [])),(.boolop .And [(.tv (.var "inside")),(.cmp .NotEq (.cut (.var "inner") (.var "k") (.bin .Add (.var "k") (.int 1))) (.str [93]))])]) [
    .append "signs" (.call "_law_sign" [(.var "inner"),(.var "k"),(.ite (.tv (.var "inside")) (.str [45]) (.str [93,40,41,42,43,63,123,125,124,94,36]))]),
    .ifS (.cmp .Is (.item (.var "signs") (.neg (.int 1))) .none) [
     .ret .none] [],
    .assign "k" (.ite (.cmp .Eq (.item (.var "inner") (.var "k")) (.str [92])) (.bin .Add (.var "k") (.int 2)) (.bin .Add (.var "k") (.int 1)))],
   .freeze "signs",
   .append "items" (.list [(.var "barred"),(.var "signs")]),
   .assign "k" (.ite (.tv (.var "inside")) (.bin .Add (.var "k") (.int 1)) (.var "k"))]],
 .ret (.var "items")]
noncomputable def Nd:List St:=[
 .ifS (.boolop .Or [(.cmp .Is (.var "items") .none),(.cmp .NotEq (.bcall .len [(.var "items")]) (.bcall .len [(.var "name")]))]) [
  .ret (.bool false)] [],
 .ret (.cmp .Eq (.comp (.var "k") "k" .up (.bcall .len [(.var "name")]) (.cmp .Eq (.cmp .In (.item (.var "name") (.var "k")) (.item (.item (.var "items") (.var "k")) (.int 1))) (.item (.item (.var "items") (.var "k")) (.int 0))) ["name","items"]) (.list []))]
noncomputable def Nb:List St:=[
 .assign "signs" (.comp (.item (.var "alphabet") (.var "figure")) "figure" .no (.var "row") .absent ["alphabet"]),
 .ret (.meth (.str [46]) .join [(.bin .Add (.bin .Add (.cut (.var "signs") .absent (.neg (.int 1))) (.list [(.bin .Mult (.item (.var "signs") (.neg (.int 1))) (.int 2))])) (.bin .Mult (.list [(.str [65])]) (.bin .Sub (.int 4) (.bcall .len [(.var "row")]))))])]
noncomputable def oh:List St:=[
 .ifS (.cmp .NotEq (.comp (.var "row") "row" .no (.var "rows") (.cmp .Eq (.var "row") (.cut (.var "figures") .absent (.bcall .len [(.var "row")]))) ["figures"]) (.list [])) [
  .ret (.list [(.int 1),(.list [])])] [],
 .assign "sizes" (.comp (.bcall .len [(.var "front")]) "front" .no (.var "fronts") (.cmp .Eq (.var "front") (.cut (.var "figures") .absent (.bcall .len [(.var "front")]))) ["figures"]),
 .ret (.list [(.int 0),(.list [(.meth (.var "fronts") .index [(.cut (.var "figures") .absent (.bcall .max [(.var "sizes")]))])])])]
noncomputable def sj:List St:=[
 .assign "STAR" (.bcall .object []),
 .assign "parts" (.call "_translate" [(.var "pat"),(.var "STAR"),(.str [46])]),
 .ret (.call "_join_translated_parts" [(.var "parts"),(.var "STAR")])]
noncomputable def sY:List St:=[
 .ifS (.tv (.bcall .isinstance [(.var "pattern"),(.glob "str")])) [
  .ret (.meth (.var "pattern") .translate [(.glob "_special_chars_map")])] [
  .assign "pattern" (.call "str" [(.var "pattern"),(.str [108,97,116,105,110,49])]),
  .ret (.imeth (.meth (.var "pattern") .translate [(.glob "_special_chars_map")]) "encode" [(.str [108,97,116,105,110,49])])]]
noncomputable def pK:List St:=[
 .new "res",
 .bindapp "add" "res",
 .swap2 "i" "n" (.int 0) (.bcall .len [(.var "pat")]),
 .whileS (.cmp .Lt (.var "i") (.var "n")) [
  .assign "c" (.item (.var "pat") (.var "i")),
  .assign "i" (.bin .Add (.var "i") (.int 1)),
  .ifS (.cmp .Eq (.var "c") (.str [42])) [
   .ifS (.boolop .Or [(.notE (.tv (.var "res"))),(.cmp .IsNot (.item (.var "res") (.neg (.int 1))) (.var "STAR"))]) [
    .appc "add" (.var "STAR")] []] [
   .ifS (.cmp .Eq (.var "c") (.str [63])) [
    .appc "add" (.var "QUESTION_MARK")] [
    .ifS (.cmp .Eq (.var "c") (.str [91])) [
     .assign "j" (.var "i"),
     .ifS (.boolop .And [(.cmp .Lt (.var "j") (.var "n")),(.cmp .Eq (.item (.var "pat") (.var "j")) (.str [33]))]) [
      .assign "j" (.bin .Add (.var "j") (.int 1))] [],
     .ifS (.boolop .And [(.cmp .Lt (.var "j") (.var "n")),(.cmp .Eq (.item (.var "pat") (.var "j")) (.str [93]))]) [
      .assign "j" (.bin .Add (.var "j") (.int 1))] [],
     .whileS (.boolop .And [(.cmp .Lt (.var "j") (.var "n")),(.cmp .NotEq (.item (.var "pat") (.var "j")) (.str [93]))]) [
      .assign "j" (.bin .Add (.var "j") (.int 1))],
     .ifS (.cmp .GtE (.var "j") (.var "n")) [
      .appc "add" (.str [92,91])] [
      .assign "stuff" (.cut (.var "pat") (.var "i") (.var "j")),
      .ifS (.cmp .NotIn (.str [45]) (.var "stuff")) [
       .assignS "stuff" (.repl 92 [92,92]) [(.var "stuff")]] [
       .new "chunks",
       .assign "k" (.ite (.cmp .Eq (.item (.var "pat") (.var "i")) (.str [33])) (.bin .Add (.var "i") (.int 2)) (.bin .Add (.var "i") (.int 1))),
       .whileS (.tv (.bool true)) [
        .assign "k" (.meth (.var "pat") .find [(.str [45]),(.var "k"),(.var "j")]),
        .ifS (.cmp .Lt (.var "k") (.int 0)) [
         .brk] [],
        .append "chunks" (.cut (.var "pat") (.var "i") (.var "k")),
        .assign "i" (.bin .Add (.var "k") (.int 1)),
        .assign "k" (.bin .Add (.var "k") (.int 3))],
       .assign "chunk" (.cut (.var "pat") (.var "i") (.var "j")),
       .ifS (.tv (.var "chunk")) [
        .append "chunks" (.var "chunk")] [
        .catLast "chunks" [45]],
       .forS "k" .down (.bin .Sub (.bcall .len [(.var "chunks")]) (.int 1)) [
        .ifS (.cmp .Gt (.item (.item (.var "chunks") (.bin .Sub (.var "k") (.int 1))) (.neg (.int 1))) (.item (.item (.var "chunks") (.var "k")) (.int 0))) [
         .bad /- chunks[k - 1]=chunks[k - 1][:-1]+chunks[k][1:] -/,
         .bad /- d5 chunks[k] -/] []],
       .freeze "chunks",
       .assignS "stuff" .gjoin [(.var "chunks")]],
      .assignS "stuff" .resub [(.var "stuff")],
      .assign "i" (.bin .Add (.var "j") (.int 1)),
      .ifS (.notE (.tv (.var "stuff"))) [
       .appc "add" (.str [40,63,33,41])] [
       .ifS (.cmp .Eq (.var "stuff") (.str [33])) [
        .appc "add" (.str [46])] [
        .ifS (.cmp .Eq (.item (.var "stuff") (.int 0)) (.str [33])) [
         .assign "stuff" (.bin .Add (.str [94]) (.cut (.var "stuff") (.int 1) .absent))] [
         .ifS (.cmp .In (.item (.var "stuff") (.int 0)) (.tup [(.str [94]),(.str [91])])) [
          .assign "stuff" (.bin .Add (.str [92]) (.var "stuff"))] []],
        .appc "add" (.fstr [(.str [91]),(.fv (.var "stuff")),(.str [93])])]]]] [
     .appc "add" (.call "escape" [(.var "c")])]]]],
 .assertS (.cmp .Eq (.var "i") (.var "n")),
 .ret (.var "res")]
noncomputable def pF:List St:=[
 .new "res",
 .bindapp "add" "res",
 .swap2 "i" "n" (.int 0) (.bcall .len [(.var "inp")]),
 .whileS (.boolop .And [(.cmp .Lt (.var "i") (.var "n")),(.cmp .IsNot (.item (.var "inp") (.var "i")) (.var "STAR"))]) [
  .appc "add" (.item (.var "inp") (.var "i")),
  .augAdd "i" (.int 1)],
 .whileS (.cmp .Lt (.var "i") (.var "n")) [
  .assertS (.cmp .Is (.item (.var "inp") (.var "i")) (.var "STAR")),
  .augAdd "i" (.int 1),
  .ifS (.cmp .Eq (.var "i") (.var "n")) [
   .appc "add" (.str [46,42]),
   .brk] [],
  .assertS (.cmp .IsNot (.item (.var "inp") (.var "i")) (.var "STAR")),
  .new "fixed",
  .whileS (.boolop .And [(.cmp .Lt (.var "i") (.var "n")),(.cmp .IsNot (.item (.var "inp") (.var "i")) (.var "STAR"))]) [
   .append "fixed" (.item (.var "inp") (.var "i")),
   .augAdd "i" (.int 1)],
  .freeze "fixed",
  .assign "fixed" (.meth (.str []) .join [(.var "fixed")]),
  .ifS (.cmp .Eq (.var "i") (.var "n")) [
   .appc "add" (.str [46,42]),
   .appc "add" (.var "fixed")] [
   .appc "add" (.fstr [(.str [40,63,62,46,42,63]),(.fv (.var "fixed")),(.str [41])])]],
 .assertS (.cmp .Eq (.var "i") (.var "n")),
 .assign "res" (.meth (.str []) .join [(.var "res")]),
 .ret (.fstr [(.str [40,63,115,58]),(.fv (.var "res")),(.str [41,92,90])])]
noncomputable def sZ:List St:=[
 .assign "t" (.bcall .type [(.var "data")]),
 .ifS (.cmp .Is (.var "t") (.glob "bytes")) [
  .ret (.var "data")] [],
 .ifS (.cmp .Is (.var "t") (.glob "bytearray")) [
  .ret (.bcall .bytes [(.var "data")])] [],
 .bad /- _wall(0) -/]
noncomputable def tJ:List St:=[
 .assign "t" (.bcall .type [(.var "x")]),
 .ifS (.boolop .Or [(.cmp .Is (.var "x") .none),(.cmp .Is (.var "t") (.glob "bool")),(.cmp .Is (.var "t") (.glob "int")),(.cmp .Is (.var "t") (.glob "float")),(.cmp .Is (.var "t") (.glob "complex")),(.cmp .Is (.var "t") (.glob "str")),(.cmp .Is (.var "t") (.glob "bytes")),(.cmp .Is (.var "t") (.glob "bytearray")),(.cmp .Is (.var "t") (.glob "list")),(.cmp .Is (.var "t") (.glob "tuple")),(.cmp .Is (.var "t") (.glob "dict")),(.cmp .Is (.var "t") (.glob "set")),(.cmp .Is (.var "t") (.glob "frozenset")),(.cmp .Is (.var "t") (.glob "range"))]) [
  .ret (.ite (.tv (.var "x")) (.bool true) (.bool false))] [],
 .bad /- _wall(1) -/]
noncomputable def pM:List St:=[
 .assign "bin_data" (.call "_buffer" [(.var "data")]),
 .assign "newline" (.call "_truth" [(.var "newline")]),
 .new "out",
 .assign "leftbits" (.int 0),
 .assign "leftchar" (.int 0),
 .forS "b" .no (.var "bin_data") [
  .assign "leftchar" (.bin .BitAnd (.bin .BitOr (.bin .LShift (.var "leftchar") (.int 8)) (.var "b")) (.int 65535)),
  .assign "leftbits" (.bin .Add (.var "leftbits") (.int 8)),
  .whileS (.cmp .GtE (.var "leftbits") (.int 6)) [
   .append "out" (.item (.glob "_B64") (.bin .BitAnd (.bin .RShift (.var "leftchar") (.bin .Sub (.var "leftbits") (.int 6))) (.int 63))),
   .assign "leftbits" (.bin .Sub (.var "leftbits") (.int 6))]],
 .ifS (.cmp .Eq (.var "leftbits") (.int 2)) [
  .append "out" (.item (.glob "_B64") (.bin .LShift (.bin .BitAnd (.var "leftchar") (.int 3)) (.int 4))),
  .append "out" (.int 61),
  .append "out" (.int 61)] [
  .ifS (.cmp .Eq (.var "leftbits") (.int 4)) [
   .append "out" (.item (.glob "_B64") (.bin .LShift (.bin .BitAnd (.var "leftchar") (.int 15)) (.int 2))),
   .append "out" (.int 61)] []],
 .ifS (.tv (.var "newline")) [
  .append "out" (.int 10)] [],
 .ret (.bcall .bytes [(.var "out")])]
noncomputable def pQ:List St:=[
 .assignS "encoded" .b2a [(.var "s")],
 .ifS (.cmp .IsNot (.var "altchars") .none) [
  .assertS (.cmp .Eq (.bcall .len [(.var "altchars")]) (.int 2)),
  .retS .btrans [(.var "encoded"),(.var "altchars")]] [],
 .ret (.var "encoded")]
theorem Cf:dz (cU (aA 29)) sq (bu (aA 29))=true:=by decide+kernel
theorem BA:dz (cU (aA 30)) sk (bu (aA 30))=true:=by decide+kernel
theorem Bc:dz (cU (aA 31)) pJ (bu (aA 31))=true:=by decide+kernel
theorem BB:dz (cU (aA 33)) pP (bu (aA 33))=true:=by decide+kernel
theorem wg:dz (cU (aA 36)) oh (bu (aA 36))=true:=by decide+kernel
theorem Bz:dz (cU (aA 4)) sj (bu (aA 4))=true:=by decide+kernel
theorem DH:dz (cU (aA 7)) sY (bu (aA 7))=true:=by decide+kernel
theorem Bm:dz (cU (aA 9)) pK (bu (aA 9))=true:=by decide+kernel
theorem G1:dz (cU (aA 10)) pF (bu (aA 10))=true:=by decide+kernel
theorem DI:dz (cU (aA 12)) sZ (bu (aA 12))=true:=by decide+kernel
theorem E7:dz (cU (aA 13)) tJ (bu (aA 13))=true:=by decide+kernel
theorem Jg:dz (cU (aA 15)) pM (bu (aA 15))=true:=by decide+kernel
theorem BC:dz (cU (aA 17)) pQ (bu (aA 17))=true:=by decide+kernel
section
noncomputable def K0:aI:=⟨λ_ _=>none,λ_ _ _=>none,λ_ _ _=>none,λ_ _=>none⟩
theorem q7(n:Nat)(c:Cx)(tz:c.tz):bQ c n K0:=⟨tz,(λ_ _ _ h=>nomatch h),(λ_ _ _ _ h=>nomatch h),λ_ _ _ _ h=>nomatch h⟩
theorem gB{c:Cx}{n:Nat}{K:aI}{sc:Scope}{aa:Env}(h:K.sp=λ_ _=>none:=by rfl):iQ c n K sc aa:=λk ls r e=>nS ((congrFun (congrFun h k) ls).symm.trans e)
section
variable {K:aI} {N:Nat} {Z:Ctx}
theorem v_var{x:String}{l:LV}(h:find Z x=some l):pe K Z (.var x)=some l:=h
theorem aK{i:Int}:pe K Z (.int i)=some (.d (.int i)):=rfl
theorem bc{l:List Nat}:pe K Z (.str l)=some (.d (sd l)):=rfl
theorem aU{op:Operator}{a b:E}{x y:LV}{d:D}(h1:pe K Z a=some x)(h2:pe K Z b=some y)(h3:cX op x y=some d):pe K Z (.bin op a b)=some (.d d):=fB h1 (fB h2 (fM h3))
theorem uy{op:CmpOp}{a b:E}{x y:LV}{t:Bool}(h1:pe K Z a=some x)(h2:pe K Z b=some y)(h3:dg op x y=some t):pe K Z (.cmp op a b)=some (.d (.bool t)):=fB h1 (fB h2 (fM h3))
theorem aS{op:CmpOp}{a b:E}{x y:LV}{t:Bool}(h1:pe K Z a=some x)(h2:pe K Z b=some y)(h3:dg op x y=some t):pt K Z (.cmp op a b)=some t:=fB h1 (fB h2 h3)
theorem uA{a:E}{t:Bool}(h1:pt K Z a=some t):pt K Z (.notE a)=some (!t):=fM h1
theorem fw{a:E}{x:LV}{t:Bool}(h1:pe K Z a=some x)(h2:re x=some t):pt K Z (.tv a)=some t:=fB h1 h2
theorem kf{a b:E}{s t:Bool}(h1:pt K Z a=some s)(h2:s=true->pt K Z b=some t):pt K Z (.boolop .And [a,b])=some (s&&t):=fB h1 (by
 cases s with
 | false=>rfl
 | true=>exact fB (h2 rfl) (by cases t<;>rfl))
theorem ND{a b:E}{s t:Bool}(h1:pt K Z a=some s)(h2:s=false->pt K Z b=some t):pt K Z (.boolop .Or [a,b])=some (s||t):=fB h1 (by
 cases s with
 | true=>rfl
 | false=>exact fB (h2 rfl) (by cases t<;>rfl))
theorem v_ite{t a b:E}{c:Bool}{l:LV}(h0:pt K Z t=some c)(h1:c=true->pe K Z a=some l)(h2:c=false->pe K Z b=some l):pe K Z (.ite t a b)=some l:=fB h0 (by
 cases c
 ·exact h2 rfl
 ·exact h1 rfl)
theorem cS{a i:E}{x y:LV}{d:D}(h1:pe K Z a=some x)(h2:pe K Z i=some y)(h3:hW x y=some d):pe K Z (.item a i)=some (.d d):=fB h1 (fB h2 (fM h3))
theorem v_cut{a lo hi:E}{x:LV}{l h:Option Int}{d:D}(h1:pe K Z a=some x)(h2:(if lo.eQ then some none else((pe K Z lo).bind cq).map some)=some l)(h3:(if hi.eQ then some none else((pe K Z hi).bind cq).map some)=some h)
  (h4:ms x l h=some d):pe K Z (.cut a lo hi)=some (.d d):=fB h1 (fB h2 (fB h3 (fM h4)))
theorem oI:(if E.absent.eQ then some none else((pe K Z .absent).bind cq).map some)=some none:=rfl
theorem fg{e:E}{i:Int}(he:e.eQ=false)(h:pe K Z e=some (.d (.int i))):(if e.eQ then some none else((pe K Z e).bind cq).map some)=some (some i):=(if_neg (he▸Bool.false_ne_true)).trans (fM (fB h rfl))
theorem aO:dO K Z []=some []:=rfl
theorem ay{e:E}{r:List E}{x:LV}{ls:List LV}(h1:pe K Z e=some x)(h2:dO K Z r=some ls):dO K Z (e::r)=some (x::ls):=fB h1 (fM h2)
theorem fO{es:List E}{ls:List LV}{ds:List D}(h1:dO K Z es=some ls)(h2:jM ls=some ds)(hz:ds.length<=1000000):pe K Z (.list es)=some (.d (.list ds)):=fB (fB h1 h2) (if_pos hz)
theorem lT:pe K Z (.list [])=some (.d (.list [])):=fO aO rfl (Nat.zero_le _)
theorem fc{f:String}{es:List E}{ls:List LV}{ds:List D}{r:D}(h1:dO K Z es=some ls)(h2:jM ls=some ds)(h3:K.fn f ds=some r):pe K Z (.call f es)=some (.d r):=fB (fB h1 h2) (fM h3)
theorem ek{f:BF}{es:List E}{ls:List LV}{r:D}(h1:dO K Z es=some ls)(h3:l8 f ls=some r):pe K Z (.bcall f es)=some (.d r):=fB h1 (fM h3)
theorem jv{o:E}{m:MF}{es:List E}{a:LV}{ls:List LV}{r:D}(h0:pe K Z o=some a)(h1:dO K Z es=some ls)(h3:K.me m a ls=some r):pe K Z (.meth o m es)=some (.d r):=fB h0 (fB h1 (fM h3))
theorem Hm{o:E}{m:String}{es:List E}{x:Addr}{ls:List LV}{ds:List D}{r:D}(h0:pe K Z o=some (.d (.ref x)))(h1:dO K Z es=some ls)(h2:jM ls=some ds)(h3:K.im x m ds=some r):pe K Z (.imeth o m es)=some (.d r):=fB h0 (fB (fB h1 h2) (fM h3))
theorem xa{α:Type}{f:D->Option (Option D)}(xs:List α)(aY:α->D)(keep:α->Bool)(out:α->D)(h:∀a∈xs,f (aY a)=some (if keep a then some (out a)else none)):kh f (xs.map aY)=some ((xs.filter keep).map out):=by
 induction xs with
 | nil=>rfl
 | cons a r ih=>
  refine fB (h a List.mem_cons_self) ((fM (ih λb hb=>h b (List.mem_cons_of_mem _ hb))).trans ?_)
  rw[List.filter_cons]
  cases keep a<;>rfl
theorem j6{α:Type}(xs:List α)(aY:α->D)(keep:α->Bool)(out:α->D){elt it test:E}{x:String}{aL:Rg}{an:List String}{cs:List (String×D)}
  (hi:(pe K Z it).bind (er aL)=some (xs.map aY)) (hc:fo Z an=some cs) (hz:xs.length<=100000)
  (ht:∀a∈xs,(if test.eQ then some true else pt K ((x,.d (aY a))::b6 cs) test)=some (keep a))
  (he:∀a∈xs,keep a=true->pe K ((x,.d (aY a))::b6 cs) elt=some (.d (out a))):pe K Z (.comp elt x aL it test an)=some (.d (.list ((xs.filter keep).map out))):=
 fB hi (fB hc ((if_pos (Nat.le_trans (Nat.le_of_eq (List.length_map _)) hz)).trans (fM (xa xs aY keep out λa ha=>fB (ht a ha) (by
  cases hk:keep a with
  | false=>rfl
  | true=>exact fM (fB (he a ha hk) rfl))))))
theorem gH{α:Type}(xs:List α)(aY:α->D)(out:α->D){elt it:E}{x:String}{aL:Rg}{an:List String}{cs:List (String×D)}
  (hi:(pe K Z it).bind (er aL)=some (xs.map aY)) (hc:fo Z an=some cs) (hz:xs.length<=100000)
  (he:∀a∈xs,pe K ((x,.d (aY a))::b6 cs) elt=some (.d (out a))):pe K Z (.comp elt x aL it .absent an)=some (.d (.list (xs.map out))):=
 (j6 xs aY (λ_=>true) out hi hc hz (λ_ _=>rfl) λa ha _=>he a ha).trans (congrArg (λl=>some (LV.d (.list (l.map out)))) (List.filter_eq_self.mpr λ_ _=>rfl))
theorem C'{α β:Type}{g:D->Option (List D)}{f:D->D->Option (Option D)}(xs:List α)(aY:α->D)(ys:α->List β)(cF:β->D)(out:α->β->D)(hg:∀a∈xs,g (aY a)=some ((ys a).map cF))(h:∀a∈xs,∀b∈ys a,f (aY a) (cF b)=some (some (out a b))):
  oH g f (xs.map aY)=some (xs.flatMap λa=>(ys a).map (out a)):=by
 induction xs with
 | nil=>rfl
 | cons a r ih=>
  refine fB (hg a List.mem_cons_self) (fB ((xa (ys a) cF (λ_=>true) (out a) (h a List.mem_cons_self)).trans (congrArg (λl=>some (l.map (out a))) (List.filter_eq_self.mpr λ_ _=>rfl))) (fM (ih (λb hb=>hg b (List.mem_cons_of_mem _ hb)) λb hb=>h b (List.mem_cons_of_mem _ hb))))
theorem yz{α β:Type}(xs:List α)(aY:α->D)(ys:α->List β)(cF:β->D)(out:α->β->D){elt it cg:E}{x y:String}{aL gu:Rg}{an:List String}{cs:List (String×D)}
  (hi:(pe K Z it).bind (er aL)=some (xs.map aY)) (hc:fo Z an=some cs) (hz:(xs.flatMap λa=>(ys a).map (out a)).length<=100000)
  (hi2:∀a∈xs,(pe K ((x,.d (aY a))::b6 cs) cg).bind (er gu)=some ((ys a).map cF))
  (he:∀a∈xs,∀b∈ys a,pe K ((y,.d (cF b))::(x,.d (aY a))::b6 cs) elt=some (.d (out a b))):
  pe K Z (.comp2 elt x aL it y gu cg an)=some (.d (.list (xs.flatMap λa=>(ys a).map (out a)))):=
 fB hi (fB hc (fB (C' xs aY ys cF out hi2 λa ha b hb=>fM (fB (he a ha b hb) rfl)) (if_pos hz)))
theorem dT{e:E}{ds:List D}(h:pe K Z e=some (.d (.list ds))):(pe K Z e).bind (er .no)=some ds:=fB h rfl
theorem Ll{l:LV}{i:Int}(h:cq l=some i)(q:0<=i/\i<=1000000):er .up l=some ((List.range i.toNat).map λj:Nat=>.int (j:Int)):=fB h (if_pos q)
theorem oC{e:E}{k:Nat}(h:pe K Z e=some (.d (.int (k:Int))))(hk:k<=1000000):(pe K Z e).bind (er .up)=some ((List.range k).map λj:Nat=>.int (j:Int)):=fB h (Ll (lI _) ⟨Int.natCast_nonneg k,Int.ofNat_le.mpr hk⟩)
theorem bo:ps K N Z []=some (.next Z):=rfl
theorem fP{s:St}{r:List St}{af:Ctx}{o:az}(h1:jO K N Z s=some (.next af))(h2:ps K N af r=some o):ps K N Z (s::r)=some o:=(congrArg (nx λaf=>ps K N af r) h1).trans h2
theorem zv{s:St}{r:List St}{d:D}(h1:jO K N Z s=some (.ret d)):ps K N Z (s::r)=some (.ret d):=congrArg (nx λaf=>ps K N af r) h1
theorem Ad{s:St}{r:List St}{af:Ctx}(h1:jO K N Z s=some (.brk af)):ps K N Z (s::r)=some (.brk af):=congrArg (nx λaf=>ps K N af r) h1
theorem ba{x:String}{e:E}{r:List St}{d:D}{o:az}(h1:pe K Z e=some (.d d))(h2:ps K N (upd Z x (.d d)) r=some o):ps K N Z (.assign x e::r)=some o:=fP (fM (fB h1 rfl)) h2
theorem lr{x:String}{k:SP}{es:List E}{r:List St}{ls:List LV}{d:D}{o:az}(h1:dO K Z es=some ls)(h2:K.sp k ls=some d)(h3:ps K N (upd Z x (.d d)) r=some o):ps K N Z (.assignS x k es::r)=some o:=fP (fM (fB h1 h2)) h3
theorem JS{k:SP}{es:List E}{r:List St}{ls:List LV}{d:D}(h1:dO K Z es=some ls)(h2:K.sp k ls=some d):ps K N Z (.retS k es::r)=some (.ret d):=zv (fM (fB h1 h2))
theorem lW{x:String}{r:List St}{o:az}(h1:d8 Z x=true)(h2:ps K N (upd Z x (.own [])) r=some o):ps K N Z (.new x::r)=some o:=fP (if_pos h1) h2
theorem oJ{x:String}{ds:List D}(h:find Z x=some (.own ds)):mn Z x=some ds:=fB h rfl
theorem kF{x:String}{e:E}{r:List St}{ds:List D}{d:D}{o:az}(h0:find Z x=some (.own ds))(h1:pe K Z e=some (.d d))(hz:ds.length<=1000000)(h2:ps K N (upd Z x (.own (ds++[d]))) r=some o):ps K N Z (.append x e::r)=some o:=
 fP (fB (oJ h0) (fB (fB h1 rfl) (if_pos hz))) h2
theorem ng{x y:String}{e:E}{r:List St}{ds:List D}{d:D}{o:az}(h0':find Z y=some (.app x))(h0:find Z x=some (.own ds))(h1:pe K Z e=some (.d d))(hz:ds.length<=1000000)(h2:ps K N (upd Z x (.own (ds++[d]))) r=some o):ps K N Z (.appc y e::r)=some o:=
 fP (fB (fB h0' rfl) (fB (oJ h0) (fB (fB h1 rfl) (if_pos hz)))) h2
theorem tw{x:String}{r:List St}{ds:List D}{o:az}(h0:find Z x=some (.own ds))(h1:d8 Z x=true)(h2:ps K N (upd Z x (.d (.list ds))) r=some o):ps K N Z (.freeze x::r)=some o:=
 fP (fB (oJ h0) (if_pos h1)) h2
theorem qQ{e:E}{r:List St}{l:LV}{d:D}(h1:pe K Z e=some l)(h2:uV l=some d):ps K N Z (.ret e::r)=some (.ret d):=zv (fM (fB h1 h2))
theorem jy{e:E}{r:List St}{d:D}(h1:pe K Z e=some (.d d)):ps K N Z (.ret e::r)=some (.ret d):=qQ h1 rfl
theorem Aw{t:E}{b o:List St}{r:List St}{c:Bool}{q:az}(h0:pt K Z t=some c)(h1:(match(if c then ps K N Z b else ps K N Z o)with | some (.next af)=>ps K N af r | o=>o)=some q):ps K N Z (.ifS t b o::r)=some q:=(congrArg (nx λaf=>ps K N af r) (fB h0 rfl:jO K N Z (.ifS t b o)=if c then ps K N Z b else ps K N Z o)).trans h1
theorem jV{t:E}{b o:List St}{r:List St}{q:az}(h0:pt K Z t=some true)(h1:(match ps K N Z b with | some (.next af)=>ps K N af r | o=>o)=some q):ps K N Z (.ifS t b o::r)=some q:=Aw h0 h1
theorem wu{t:E}{b o:List St}{r:List St}{q:az}(h0:pt K Z t=some false)(h1:(match ps K N Z o with | some (.next af)=>ps K N af r | o=>o)=some q):ps K N Z (.ifS t b o::r)=some q:=Aw h0 h1
theorem jx{t:E}{b:List St}{r:List St}{q:az}(h0:pt K Z t=some false)(h1:ps K N Z r=some q):ps K N Z (.ifS t b []::r)=some q:=wu h0 h1
theorem uE{x:String}{aL:Rg}{it:E}{b r:List St}{ds:List D}{af:Ctx}{o:az}(hi:(pe K Z it).bind (er aL)=some ds)(h1:gx (λd Z=>ps K N (upd Z x (.d d)) b) ds Z=some (.next af))(h2:ps K N af r=some o):ps K N Z (.forS x aL it b::r)=some o:=fP (fB hi h1) h2
theorem ta{b:D->Ctx->Option az}{d:D}{r:List D}{Z af:Ctx}{o:Option az}(h:b d Z=some (.next af))(k:gx b r af=o):gx b (d::r) Z=o:=by rw[gx,h];exact k
theorem Nk{b:D->Ctx->Option az}(G:Nat->Ctx)(ds:List D)(k:Nat)(h:∀i d,ds[i]? =some d->b d (G (k+i))=some (.next (G (k+i+1)))):gx b ds (G k)=some (.next (G (k+ds.length))):=by
 induction ds generalizing k with
 | nil=>rfl
 | cons d r ih=>exact ta (h 0 d rfl) ((ih (k+1) λi e hd=>(Nat.succ_add_eq_add_succ k i).symm▸h (i+1) e hd).trans (congrArg (λn=>some (az.next (G n))) (Nat.succ_add_eq_add_succ k r.length)))
theorem Np{α:Type}{b:D->Ctx->Option az}(aY:α->D)(G:List α->Ctx)(xs bU:List α)(h:∀bU a,(∃suf,bU++a::suf=(bU++a::suf))->b (aY a) (G bU)=some (.next (G (bU++[a])))):gx b (xs.map aY) (G bU)=some (.next (G (bU++xs))):=by
 induction xs generalizing bU with
 | nil=>exact congrArg (λl=>some (az.next (G l))) (List.append_nil bU).symm
 | cons a r ih=>exact ta (h bU a ⟨r,rfl⟩) ((ih (bU++[a])).trans (congrArg (λl=>some (az.next (G l))) (List.append_assoc bU [a] r)))
theorem IP{α:Type}{b:D->Ctx->Option az}(aY:α->D)(M:List α->Ctx->Prop)(xs0:List α)(turn:∀bU a suf Z,bU++a::suf=xs0->M bU Z->∃af,b (aY a) Z=some (.next af)/\M (bU++[a]) af)
  (xs bU:List α) (Z:Ctx) (e:bU++xs=xs0) (hM:M bU Z):∃af,gx b (xs.map aY) Z=some (.next af)/\M xs0 af:=by
 induction xs generalizing bU Z with
 | nil=>exact⟨Z,rfl,(List.append_nil bU).symm.trans e▸hM⟩
 | cons a r ih=>exact ah (turn bU a r Z e hM) λjg h1 m1=>ah (ih (bU++[a]) jg ((List.append_assoc bU [a] r).trans e) m1) λcH h2 m2=>⟨cH,ta h1 h2,m2⟩
theorem w0{α:Type}{x:String}{aL:Rg}{it:E}{b r:List St}{o:az}(aY:α->D)(xs:List α)(M:List α->Ctx->Prop)(hi:(pe K Z it).bind (er aL)=some (xs.map aY))(h0:M [] Z)
  (turn:∀bU a suf af,bU++a::suf=xs->M bU af->∃aF,ps K N (upd af x (.d (aY a))) b=some (.next aF)/\M (bU++[a]) aF) (je:∀af,M xs af->ps K N af r=some o):ps K N Z (.forS x aL it b::r)=some o:=
 ah (IP (b:=λd Z=>ps K N (upd Z x (.d d)) b) aY M xs turn xs [] Z rfl h0) λaf h1 h2=>uE hi h1 (je af h2)
theorem qq{t:E}{b r:List St}{af:Ctx}{o:az}(h1:dK (λZ=>pt K Z t) (λZ=>ps K N Z b) N Z=some (.next af))(h2:ps K N af r=some o):ps K N Z (.whileS t b::r)=some o:=fP h1 h2
end
theorem ud{op:Operator}{a b z:Int}(h:binI op a b=some z):cX op (.d (.int a)) (.d (.int b))=some (.int z):=by
 have k:AE (binI op) (.d (.int a)) (.d (.int b))=some (.int z):=fB rfl (fB rfl (fM h))
 cases op
 case Add=>exact nS h
 case Mult=>exact nS h
 all_goals exact k
theorem y6(a b:Int):cX .Add (.d (.int a)) (.d (.int b))=some (.int (a+b)):=rfl
theorem qy(a b:Int):cX .Sub (.d (.int a)) (.d (.int b))=some (.int (a - b)):=rfl
theorem Jn{a b:Int}(h:b.natAbs < 2 ^ 60):cX .Mult (.d (.int a)) (.d (.int b))=some (.int (a * b)):=fL (fR rfl (fB rfl (fL (fB rfl (if_pos h)))))
theorem qA{a b:Int}(h0:b≠0)(hb:b.natAbs < 1073741824):cX .FloorDiv (.d (.int a)) (.d (.int b))=some (.int (a.fdiv b)):=ud (if_pos ⟨h0,hb⟩)
theorem qz{a b:Int}(h0:b≠0):cX .Mod (.d (.int a)) (.d (.int b))=some (.int (a.fmod b)):=ud (if_pos h0)
theorem y5{a b:Int}(h0:0<=b)(h1:b<=1000)(ha:a.natAbs < 2 ^ 64):cX .Pow (.d (.int a)) (.d (.int b))=some (.int (a ^ b.toNat)):=ud (if_pos ⟨h0,h1,ha⟩)
theorem kR{a:LV}{x:List D}(h:bD a=some x):cq a=none/\br a=none:=(eF h).elim (λe=>e▸⟨rfl,rfl⟩) λe=>e▸⟨rfl,rfl⟩
theorem nk{a:LV}{x:List Nat}(h:br a=some x):cq a=none/\bD a=none:=db h▸⟨rfl,rfl⟩
theorem Jo{a b:LV}{x y:List Nat}(ha:br a=some x)(hb:br b=some y)(h:x.length+y.length<=1000000):cX .Add a b=some (sd (x++y)):=fL (fL (fR (fN (nk ha).1) (fL (fB ha (fB hb (if_pos h))))))
theorem mU{a b:List Nat}(h:a.length+b.length<=1000000):cX .Add (.d (sd a)) (.d (sd b))=some (sd (a++b)):=Jo (da a) (da b) h
theorem iz{a b:LV}{x y:List D}(ha:bD a=some x)(hb:bD b=some y)(h:x.length+y.length<=1000000):cX .Add a b=some (.list (x++y)):=fL (fL (fR (fN (kR ha).1) (fR (fN (kR ha).2) (fB ha (fB hb (if_pos h))))))
theorem Kn{a b:LV}{x:List D}{y:Int}(ha:bD a=some x)(hb:cq b=some y)(h:x.length * y.toNat<=100000/\-1000000<=y/\y<=1000000):uY a b=some (.list (List.replicate y.toNat x).flatten):=fB hb (fR (fN (kR ha).1) (fB ha (if_pos h)))
theorem y4{a:LV}{x:List D}{k:Nat}(ha:bD a=some x)(h:x.length * k<=100000)(hk:k<=1000000):cX .Mult a (.d (.int (k:Int)))=some (.list (List.replicate k x).flatten):=
 fL (fR rfl (Kn ha (lI _) ⟨h,by exact Int.natCast_nonneg _,Int.ofNat_le.mpr hk⟩))
theorem wN(a b:Int):dg .Eq (.d (.int a)) (.d (.int b))=some (a==b):=rfl
theorem mK(a b:Int):dg .Lt (.d (.int a)) (.d (.int b))=some (decide (a < b)):=rfl
theorem sP(a b:Int):dg .GtE (.d (.int a)) (.d (.int b))=some (decide (a >= b)):=rfl
theorem Ja{a b:LV}{x y:List Nat}(ha:br a=some x)(hb:br b=some y):rW a b=some (x==y):=fR (fN (nk ha).1) (fL (fB ha (fB hb rfl)))
theorem Il{a b:LV}{x y:List Nat}(ha:br a=some x)(hb:br b=some y):rQ a b=some (x !=y):=fR (fN (nk ha).1) (fL (fB ha (fB hb rfl)))
theorem sM(a b:List Nat):dg .Eq (.d (sd a)) (.d (sd b))=some (a==b):=Ja (da a) (da b)
theorem wM(a b:List Nat):dg .NotEq (.d (sd a)) (.d (sd b))=some (a !=b):=Il (da a) (da b)
theorem yO{a b:LV}{k:Nat}{y:List Nat}(ha:br a=some [k])(hb:br b=some y):mz a b=some (decide (k∈y)):=fL (fB hb (fB ha rfl))
theorem IH{a b:LV}{r:Bool}(h:mz a b=some r):u0 a b=some r:=fL h
theorem DF(k:Nat)(y:List Nat):dg .In (.d (sd [k])) (.d (sd y))=some (decide (k∈y)):=IH (yO (da [k]) (da y))
theorem vM(k:Nat)(y:List Nat):dg .NotIn (.d (sd [k])) (.d (sd y))=some (!decide (k∈y)):=fM (yO (da [k]) (da y))
theorem Jt{a:LV}{x:List D}(h:bD a=some x):mD a=none:=(eF h).elim (λe=>e▸rfl) λe=>e▸rfl
theorem tN{a b:LV}{x y:List D}(ha:bD a=some x)(hb:bD b=some y)(hk:kZ 6 x y=true):rW a b=some (eB x y):=fR (fN (kR ha).1) (fR (fN (kR ha).2) (fR (fN (Jt ha)) (fB ha (fB hb (if_pos hk)))))
theorem xU{a b:LV}{x y:List D}(ha:bD a=some x)(hb:bD b=some y)(hk:kZ 6 x y=true):rQ a b=some (!eB x y):=fR (fN (kR ha).1) (fR (fN (kR ha).2) (fB ha (fB hb (if_pos hk))))
theorem x9{a b:LV}{d:D}{y:List D}(ha:lD a=some d)(hb:bD b=some y)(hk:∀e∈y,eA 6 e d=true):mz a b=some (y.any λe=>bA e d):=fR (fN (kR hb).2) (fB hb (fB ha (if_pos (List.all_eq_true.mpr hk))))
theorem yD{α:Type}{l:List α}{k:Nat}{a:α}(h:l[k]? =some a):k < l.length:=(List.getElem?_eq_some_iff.mp h).elim λh _=>h
theorem yQ(n k:Nat):dJ n (k:Int)=k:=by unfold dJ;rw[if_neg (Int.not_lt.mpr (Int.natCast_nonneg k))];exact Int.toNat_natCast k
theorem x8{m k:Nat}(hk:k < m)(hz:m<=1000000):-(m:Int)<=k/\(k:Int) < m/\m<=1000000:=⟨by lia,Int.ofNat_lt.mpr hk,hz⟩
theorem zF{a i:LV}{ds:List D}{z:Int}(hi:cq i=some z)(ha:bD a=some ds)(q:-(ds.length:Int)<=z/\z < ds.length/\ds.length<=1000000){d:D}(h:ds[dJ ds.length z]? =some d):hW a i=some d:=fB hi (fL (fB ha ((if_pos q).trans h)))
theorem Ku{a i:LV}{x:List Nat}{z:Int}(hi:cq i=some z)(ha:br a=some x)(q:-(x.length:Int)<=z/\z < x.length/\x.length<=1000000){k:Nat}(h:x[dJ x.length z]? =some k):hW a i=some (sd [k]):=fB hi (fR (fN (nk ha).2) (fL (fB ha ((if_pos q).trans (fM h)))))
theorem item_list{a:LV}{ds:List D}{k:Nat}{d:D}(ha:bD a=some ds)(hd:ds[k]? =some d)(hz:ds.length<=1000000):hW a (.d (.int (k:Int)))=some d:=
 zF (lI _) ha (x8 (yD hd) hz) ((congrArg (ds[·]?) (yQ _ k)).trans hd)
theorem item_last{a:LV}{ds:List D}{d:D}(ha:bD a=some ds)(hd:ds.getLast?=some d)(hz:ds.length<=1000000):hW a (.d (.int (-1)))=some d:=by
 have hk:0 < ds.length:=by cases ds with | nil=>exact nS hd | cons _ _=>exact Nat.succ_pos _
 have ix:dJ ds.length (-1)=ds.length - 1:=by unfold dJ;rw[if_pos (by decide)];lia
 exact zF (lI _) ha ⟨by lia,by exact Int.natCast_nonneg _,hz⟩ ((congrArg (ds[·]?) ix).trans (List.getLast?_eq_getElem?.symm.trans hd))
theorem item_str{x:List Nat}{k c:Nat}(hd:x[k]? =some c)(hz:x.length<=1000000):hW (.d (sd x)) (.d (.int (k:Int)))=some (sd [c]):=
 Ku (lI _) (da x) (x8 (yD hd) hz) ((congrArg (x[·]?) (yQ _ k)).trans hd)
theorem y8{a:LV}{x:List UInt8}(h:gA a=some x):bD a=none/\br a=none:=kO h▸⟨rfl,rfl⟩
theorem Kv{a i:LV}{x:List UInt8}{z:Int}(hi:cq i=some z)(ha:gA a=some x)(q:0<=z/\z < x.length/\x.length<=1000000):hW a i=some (.int (x.getD z.toNat 0).toNat):=fB hi (fR (fN (y8 ha).1) (fR (fN (y8 ha).2) (fB ha (if_pos q))))
theorem Do{x:List UInt8}{k:Nat}(hk:k < x.length)(hz:x.length<=1000000):hW (.d (.bytes x.toArray)) (.d (.int (k:Int)))=some (.int (x.getD k 0).toNat):=
 Kv (lI _) (m8 x) ⟨Int.natCast_nonneg k,Int.ofNat_lt.mpr hk,hz⟩
theorem tR{a:LV}{ds:List D}{lo hi:Option Int}(ha:bD a=some ds)(hz:ds.length<=1000000):ms a lo hi=some (.list (cut ds lo hi)):=fL (fB ha (if_pos hz))
theorem Mg{a:LV}{x:List Nat}{lo hi:Option Int}(ha:br a=some x)(hz:x.length<=1000000):ms a lo hi=some (sd (cut x lo hi)):=fR (fN (nk ha).2) (fB ha (if_pos hz))
theorem kL{x:List Nat}{lo hi:Option Int}(hz:x.length<=1000000):ms (.d (sd x)) lo hi=some (sd (cut x lo hi)):=Mg (da x) hz
theorem on{a:LV}{ds:List D}(ha:bD a=some ds)(hz:ds.length<=1000000):l8 .len [a]=some (.int ds.length):=fL (fB ha (if_pos hz))
theorem LR{a:LV}{x:List Nat}(ha:br a=some x)(hz:x.length<=1000000):rt a=some (.int x.length):=fR (fN (nk ha).2) (fL (fB ha (if_pos hz)))
theorem tH{x:List Nat}(hz:x.length<=1000000):l8 .len [.d (sd x)]=some (.int x.length):=LR (da x) hz
end
theorem ou(a b:List Nat):eB (a.map λf:Nat=>D.int (f:Int)) (b.map λf:Nat=>D.int (f:Int))=(a==b):=by
 induction a generalizing b with
 | nil=>cases b<;>rfl
 | cons x xs ih=>
  cases b with
  | nil=>rfl
  | cons y ys=>
   have h:((x:Int)==(y:Int))=(x==y):=Bool.eq_iff_iff.mpr (by rw[beq_iff_eq,beq_iff_eq];exact Int.ofNat_inj)
   rw[List.map_cons,List.map_cons,oo,ih ys]
   exact congrArg (·&&(xs==ys)) h
theorem si{f:D->D->Bool}(hf:∀x y:Int,f (.int x) (.int y)=true)(a b:List Nat):jZ f (a.map λf:Nat=>D.int (f:Int)) (b.map λf:Nat=>D.int (f:Int))=true:=by
 induction a generalizing b with
 | nil=>rfl
 | cons x xs ih=>
  cases b with
  | nil=>rfl
  | cons y ys=>exact(congrArg (·&&_) (hf x y)).trans (ih ys)
theorem xi(a b:List Nat):kZ 6 (a.map λf:Nat=>D.int (f:Int)) (b.map λf:Nat=>D.int (f:Int))=true:=si (λ_ _=>rfl) a b
theorem xZ(a b:List Nat):eA 6 (aj a) (aj b)=true:=si (f:=eA 5) (λ_ _=>rfl) a b
theorem Jv(x:List Nat)(l:List (List Nat)):((l.map aj).any λe=>bA e (aj x))=decide (x∈l):=by
 induction l with
 | nil=>rfl
 | cons y r ih=>
  refine ab List.map_cons<|ab List.any_cons<|ab ih<|ab (by exact ou y x:bA (aj y) (aj x)=(y==x)) ?_;rw[Bool.eq_iff_iff,Bool.or_eq_true,decide_eq_true_iff,decide_eq_true_iff,beq_iff_eq,List.mem_cons]
  exact or_congr_left eq_comm
theorem sO(a b:List Nat):dg .Eq (.d (aj a)) (.d (aj b))=some (a==b):=(tN rfl rfl (xi a b)).trans (congrArg some (ou a b))
theorem DD(a b:List Nat):dg .NotEq (.d (aj a)) (.d (aj b))=some (a !=b):=(xU rfl rfl (xi a b)).trans (congrArg (λb=>some (!b)) (ou a b))
theorem Gy{b:LV}(a:List Nat)(l:List (List Nat))(hb:bD b=some (l.map aj)):mz (.d (aj a)) b=some (decide (a∈l)):=
 (x9 rfl hb λe he=>ah (List.mem_map.mp he) λx _ h=>h▸xZ x a).trans (congrArg some (Jv a l))
theorem vF{b:LV}(a:List Nat)(l:List (List Nat))(hb:bD b=some (l.map aj)):dg .NotIn (.d (aj a)) b=some (!decide (a∈l)):=fM (Gy a l hb)
theorem xW(l:List D):kZ 6 l []=true:=by cases l<;>rfl
theorem yi(l:List D):eB l []=l.isEmpty:=by cases l<;>rfl
theorem Jf(l:List D):dg .Eq (.d (.list l)) (.d (.list []))=some l.isEmpty:=(tN rfl rfl (xW l)).trans (congrArg some (yi l))
theorem DE(l:List D):dg .NotEq (.d (.list l)) (.d (.list []))=some (!l.isEmpty):=(xU rfl rfl (xW l)).trans (congrArg (λb=>some (!b)) (yi l))
noncomputable def figs(z:Int):List Nat:=(List.range (1+z.fmod 4).toNat).map λk=>(((z.fdiv 4).fdiv (64 ^ k)).fmod 64).toNat
noncomputable def lx:List (List Nat):=[[62],[5,63],[5,7,62,1],[63,0,9]]
noncomputable def b5(drawn:List Int):List (List Nat):=lx++drawn.map figs
noncomputable def jH(row other:List Nat):Bool:=other !=row&&other==row.take other.length
noncomputable def g8(ae kept:List (List Nat))(row:List Nat):List (List Nat):=if !decide (row∈kept)&&(ae.filter (jH row)).isEmpty then kept++[row]else kept
noncomputable def gK(drawn:List Int):List (List Nat):=(b5 drawn).foldl (g8 (b5 drawn)) []
theorem FQ(row:List Nat)(k:Nat):cut (row.map λf:Nat=>D.int (f:Int)) none (some (k:Int))=(row.take k).map λf:Nat=>D.int (f:Int):=by rw[qm,List.map_take]
theorem GQ(z:Int):0<=z.fmod 4/\z.fmod 4 < 4:=⟨Int.fmod_nonneg_of_pos z (by decide),Int.fmod_lt_of_pos z (by decide)⟩
theorem yd(z:Int):(figs z).length<=4/\1<=(figs z).length:=by
 have:=GQ z
 unfold figs;rw[List.length_map,List.length_range];omega
theorem x7(R:List (List Nat))(ae:List (List Nat)):∀(kept:List (List Nat)),(ae.foldl (g8 R) kept).length<=kept.length+ae.length:=by
 induction ae with
 | nil=>
  intro kept
  simp
 | cons row r ih=>
  intro kept
  refine ab List.foldl_cons ?_
  have:=ih (g8 R kept row)
  have h2:(g8 R kept row).length<=kept.length+1:=by unfold g8;refine bq (λ_=>?_) λ_=>?_<;>simp
  simp only[List.length_cons];lia
theorem j5{K:aI}{Z:Ctx}{e:E}{r:List Nat}(h:pe K Z e=some (.d (aj r)))(hz:r.length<=1000000):pe K Z (.bcall .len [e])=some (.d (.int (r.length:Int))):=by
 have:=ek (f:=.len) (ay h aO) (on (ds:=r.map λf:Nat=>D.int (f:Int)) rfl (by rw[List.length_map];exact hz))
 rwa [List.length_map]at this
theorem lG{K:aI}{Z:Ctx}{e i:E}{r:List Nat}{k:Nat}(h:pe K Z e=some (.d (aj r)))(hi:i.eQ=false)(h2:pe K Z i=some (.d (.int (k:Int))))(hz:r.length<=1000000):pe K Z (.cut e .absent i)=some (.d (aj (r.take k))):=by
 have:=v_cut h oI (fg hi h2) (tR (a:=.d (aj r)) (ds:=r.map λf:Nat=>D.int (f:Int)) rfl (by rw[List.length_map];exact hz))
 rwa [FQ]at this
theorem K5(drawn:List Int)(hd:drawn.length<=3):ps K0 0 [("drawn",.d (.list (drawn.map .int)))] sq=some (.ret (.list ((gK drawn).map aj))):=by
 have hA:(b5 drawn).length<=7:=by delta b5 lx;refine ab List.length_append ?_;rw[List.length_map];simp;lia
 have hrow:∀r∈b5 drawn,r.length<=4:=by
  intro r hr
  rcases List.mem_append.mp hr with h | h
  ·simp only[lx,List.mem_cons,List.not_mem_nil,or_false]at h
   rcases h with rfl | rfl | rfl | rfl<;>trivial
  ·exact ah (List.mem_map.mp h) λz _ am=>rB am<|(yd z).1
 refine ba (d:=.list ((b5 drawn).map aj)) ?_ ?_
 ·have e:(b5 drawn).map aj=lx.map aj++drawn.map λz=>aj (figs z):=by unfold b5;refine ab List.map_append<|ab List.map_map ?_;rfl
  refine ab e<|aU (x:=.d (.list (lx.map aj))) (y:=.d (.list (drawn.map λz=>aj (figs z)))) ?_ ?_ (iz rfl rfl (by rw[List.length_map,List.length_map];simp[lx];lia))
  ·rfl
  ·refine gH drawn .int (λz=>aj (figs z)) rfl rfl (by lia) λz _=>?_
   have e2:aj (figs z)=.list ((List.range (1+z.fmod 4).toNat).map λk:Nat=>.int (((z.fdiv 4).fdiv (64 ^ k)).fmod 64)):=by
    unfold figs
    refine(?_:D.list _=_)
    refine ab List.map_map ?_
    congr 1
    apply List.map_congr_left
    intro k _
    refine(?_:D.int (((((z.fdiv 4).fdiv (64 ^ k)).fmod 64).toNat:Nat):Int)=D.int (((z.fdiv 4).fdiv (64 ^ k)).fmod 64))
    congr 1;lia
   refine ab e2<|gH (List.range (1+z.fmod 4).toNat) (λk:Nat=>.int (k:Int)) _ (oC ?_ (by lia)) rfl (by refine ab List.length_range ?_;lia) λk hk=>?_
   ·skip
    refine ab (by lia:(((1+z.fmod 4).toNat:Nat):Int)=1+z.fmod 4) ?_
    exact aU aK (aU (v_var rfl) aK (qz (by decide))) (y6 _ _)
   ·have hk':k < 4:=by have:=List.mem_range.mp hk;lia
    refine aU (aU (aU (v_var rfl) aK (qA (by decide) (by decide))) (aU (y:=.d (.int (k:Int))) aK (v_var rfl) (y5 (by lia) (by lia) (by decide))) ?_) aK (qz (by decide))
    refine ab (by rw[Int.toNat_natCast]:(64:Int) ^ ((k:Int)).toNat=64 ^ k) ?_
    refine qA ?_ ?_
    ·exact Int.ne_of_gt (Int.pow_pos (by decide))
    ·have:(64:Int) ^ k=((64 ^ k:Nat):Int):=by push_cast;rfl
     refine ab this ?_;rw[Int.natAbs_natCast]
     have:64 ^ k<=64 ^ 3:=Nat.pow_le_pow_right (by decide) (by lia)
     lia
 refine lW rfl<|w0 aj (b5 drawn) (λdone Z=>find Z "rows"=some (.d (.list ((b5 drawn).map aj)))/\find Z "kept"=some (.own ((done.foldl (g8 (b5 drawn)) []).map aj))) rfl ⟨rfl,rfl⟩ (λdone row suf Z hxs hM=>?_) λaf hM=>?_
 ·refine bR hM λm1 m2=>?_
  have hr:row∈b5 drawn:=by refine rB hxs ?_;simp
  have q1:find (upd Z "row" (.d (aj row))) "row"=some (.d (aj row)):=by rw[ai,if_pos rfl]
  have q2:find (upd Z "row" (.d (aj row))) "rows"=some (.d (.list ((b5 drawn).map aj))):=by rw[ai,if_neg (by decide)];exact m1
  have q3:find (upd Z "row" (.d (aj row))) "kept"=some (.own ((done.foldl (g8 (b5 drawn)) []).map aj)):=by rw[ai,if_neg (by decide)];exact m2
  generalize upd Z "row" (.d (aj row))=jg at q1 q2 q3
  have hk:=x7 (b5 drawn) done []
  have hdone:done.length<=7:=by have:=congrArg List.length hxs;simp at this;lia
  refine ab List.foldl_append<|ab List.foldl_cons<|ab List.foldl_nil ?_
  generalize done.foldl (g8 (b5 drawn)) []=kept at q3 hk
  rw[List.length_nil,Nat.zero_add]at hk
  have ht:pt K0 jg (.boolop .And [.cmp .NotIn (.var "row") (.var "kept"),.cmp .Eq (.comp (.var "other") "other" .no (.var "rows") (.boolop .And [.cmp .NotEq (.var "other") (.var "row"),.cmp .Eq (.var "other") (.cut (.var "row") .absent (.bcall .len [.var "other"]))]) ["row"]) (.list [])])=
    some (!decide (row∈kept)&&((b5 drawn).filter (jH row)).isEmpty):=by
   refine kf (aS (v_var q1) (v_var q3) (vF row kept rfl)) λ_=>?_
   have e:((b5 drawn).filter (jH row)).isEmpty=(((b5 drawn).filter (jH row)).map aj).isEmpty:=by exact ab List.isEmpty_map rfl
   refine ab e<|aS (j6 (b5 drawn) aj (jH row) aj (dT (v_var q2)) (cs:=[("row",aj row)]) (fB (fB q1 rfl) rfl) (by lia) (λother ho=>?_) λother _ _=>v_var rfl) lT (Jf _)
   have hl:=hrow other ho
   refine kf (aS (v_var rfl) (v_var rfl) (DD _ _)) λ_=>aS (v_var rfl) (lG (v_var rfl) rfl (j5 (v_var rfl) (by lia)) (by have:=hrow row hr;lia)) (sO _ _)
  by_cases hb:(!decide (row∈kept)&&((b5 drawn).filter (jH row)).isEmpty)=true
  ·refine⟨upd jg "kept" (.own (kept.map aj++[aj row])),?_,?_,?_⟩
   ·refine jV (ht.trans (congrArg some hb))<|ab (kF q3 (v_var q1) (by rw[List.length_map];lia) bo) ?_;rfl
   ·rw[ai,if_neg (by decide)];exact q2
   ·rw[ai,if_pos rfl];unfold g8;refine ab (if_pos hb)<|ab List.map_append ?_;rfl
  ·refine nN jg (jx (ht.trans (congrArg some (by simpa using hb))) bo) q2 ?_
   unfold g8;exact ab (if_neg hb) q3
 ·exact qQ (v_var hM.2) rfl
theorem zZ:cV 180 (fD "_law_rows" "_law_rows" (aA 29) .none .none eM 179) (bu (aA 29)):=
 ⟨λP=>⟨_,rfl,rfl⟩,rfl,rfl,⟨179,rfl,by decide+kernel⟩,rfl,rfl,rfl,rfl,rfl⟩
theorem IR{drawn:List Int}(hd:drawn.length<=3):Fn 2 180 [.list (drawn.map .int)] (.list ((gK drawn).map aj)):=
 iG (n:=1) (K:=K0) 0 sq zZ (names:=["drawn"]) (md "drawn") rfl (by decide) (by decide+kernel) Cf (λc tz=>q7 1 c tz) (λ_ _ _ _ _=>gB) (K5 drawn hd)
section
theorem Dm{σ:Type}(b:List UInt8)(F:Nat->Nat×Array Nat×σ->Sem (ForInStep (Nat×Array Nat×σ)))(st:σ)
  (hF:∀(x p:Nat) (out:Array Nat) (c:UInt8),b[p]? =some c->out.size<=b.length->F x (p,out,st)=pure (ForInStep.yield (p+1,out.push c.toNat,st))):
  ∀(m k:Nat) (out:Array Nat),k+m=b.length->out.size=k->forIn (List.range' k m) (k,out,st) F=(pure (b.length,(out.toList++(b.drop k).map (·.toNat)).toArray,st):Sem _):=by
 intro m
 induction m with
 | zero=>
  intro k out hk ho
  refine ab (by lia:k=b.length) ?_
  simp
 | succ m ih=>
  intro k out hk ho
  have bl:k < b.length:=by lia
  refine ab List.range'_succ ?_;rw[List.forIn_cons,hF k k out b[k] (List.getElem?_eq_getElem bl) (by lia)]
  show forIn (List.range' (k+1) m) (k+1,out.push b[k].toNat,st) F=_
  refine ab (ih (k+1) (out.push b[k].toNat) (by lia) (by rw[Array.size_push];exact congrArg (·+1) ‹_›)) ?_
  refine ab (List.drop_eq_getElem_cons bl)<|ab List.map_cons<|ab Array.toList_push ?_;rw[List.append_assoc,List.singleton_append]
open Builtin in
theorem Fg(id:String)(b:List UInt8)(hb:∀x∈b,x.toNat < 128)(hz:b.length<=1000):_codecs.runDecoder id _codecs.asciiDecoder none true b.toArray 0 []=pure ((b.map (·.toNat)).toArray,b.length):=by
 dsimp only[_codecs.runDecoder]
 simp only[Std.Legacy.Range.forIn_eq_forIn_range',Std.Legacy.Range.size]
 refine ab (show(b.toArray.size - 0+1 - 1) / 1=b.length by simp) ?_
 rw[Dm b _ _ (λx p out c hp ho=>?_) b.length 0 #[] (Nat.add_comm _ _) rfl]
 ·show(pure _:Sem (Array Nat×Nat))=pure _
  rfl
 ·have bl:p < b.length:=by
   by_cases q:p < b.length
   ·exact q
   ·replace hp:=Eq.trans (Eq.symm (List.getElem?_eq_none (Nat.not_lt.mp ‹_›))) hp;exact nS hp
  have hf:_codecs.asciiDecoder.find true b.toArray p=_codecs.Found.char c.toNat (p+1):=by
   have e:(b.toArray.getD p 0)=c:=by
    refine ab Array.getD_eq_getD_getElem?<|ab List.getElem?_toArray<|ab hp ?_;rfl
   refine(?_:(if(b.toArray.getD p 0).toNat < 128 then _ else _)=_)
   refine ab e ?_;rw[if_pos (hb c (List.mem_of_getElem? hp:c∈b))]
  refine ab hf<|ab (if_neg (by refine ab sizeLine_eq ?_;lia))<|ab (if_neg (by simp;exact Nat.succ_le_of_lt ‹_›)) ?_
  rfl
section
variable {prog:Program} {w:World} {A:Around} {E:Value->Shared->Prop} {s:Shared}
open Builtin in
theorem A7{b:List UInt8}{t t1 t2:Tok}{d:PySem.Str}(hb:∀x∈b,x.toNat < 128)(hz:b.length<=1000):
  Meets («_codecs.decode.text» ⟨[.bytes b.toArray t,.str (PySem.Str.ofString "ascii") t1,.none,.str d t2],[]⟩) (λ_ R s=>R (.ok (.ret (.str (S (b.map (·.toNat))) s.toks))) {s with toks:=s.toks+1}):=
 Meets.of_wp λprog w A R s h=>by
  refine(?_:wpAny _ _ (Bytes.bytesLike _ (.bytes b.toArray t) >>= λr=>_) _ _ s)
  refine wpAny_bind (wpAny_of_eq KBd.like_eq ?_)
  refine wpAny_bind (wpAny_of_eq KBd.held_eq ?_)
  have road:∀id,_codecs.decodeRoad id b.toArray (PySem.Str.ofString "ascii") none []=(_codecs.runDecoder id _codecs.asciiDecoder none true b.toArray 0 [] >>= λr=>mkStr ⟨r.1⟩):=by intro id;kernel_rfl
  rw[road,Fg _ b hb hz]
  refine wpAny_bind (wpAny_bind (wpAny_pure ?_))
  exact wpAny_mkStr (wpAny_pure ⟨_,rfl,h⟩) (by rw[dq,List.length_map,sizeLine_eq];exact Nat.le_trans ‹_› (Nat.le_add_left _ _))
open Builtin in
theorem CH{c:UInt8}{cs:List UInt8}{t u:Tok}:«bytes.decode» ⟨[.bytes (c::cs).toArray t,.str (PySem.Str.ofString "ascii") u],[]⟩=(mkStr (PySem.Str.ofString "utf-8") >>= λ_=>mkStr (PySem.Str.ofString "ascii") >>= λe=>mkStr (PySem.Str.ofString "bytes.decode") >>= λd=>
  call (.builtin "_codecs.decode.text") [.bytes (c::cs).toArray t,e,.none,d] >>= λv=>ret v):=by kernel_rfl
open Builtin in
theorem A2{b:List UInt8}{t u:Tok}(au:b≠[])(hb:∀x∈b,x.toNat < 128)(hz:b.length<=1000):
  Meets («bytes.decode» ⟨[.bytes b.toArray t,.str (PySem.Str.ofString "ascii") u],[]⟩) (λ_ R s=>∀t' k,R (.ok (.ret (.str (S (b.map (·.toNat))) t'))) {s with toks:=k}):=
 Meets.of_wp λprog w A R s h=>by
  cases b with
  | nil=>exact absurd rfl au
  | cons c cs=>
   refine ab CH<|wpAny_bind (wpAny_mkStr ?_ (Nat.le_add_left _ _))
   refine wpAny_bind (wpAny_mkStr ?_ (Nat.le_add_left _ _))
   refine wpAny_bind (wpAny_mkStr ?_ (Nat.le_add_left _ _))
   exact wpAny_bind (call_function_meets KBd.kind_text KBd.plain_text KBd.entry_text (KBd.args_text _ _ _ _) (A7 hb hz) (wpAny_pure ⟨_,rfl,h _ _⟩))
theorem BM(a b:Value):argsOk "bytes.decode" ⟨[a,b],[]⟩:=by kernel_rfl
end
section
variable {c:Cx} {n:Nat}
theorem Ez{b:List UInt8}(au:b≠[])(hb:∀x∈b,x.toNat < 128)(hz:b.length<=1000):dm c n (.builtin "bytes.decode") [.d (.bytes b.toArray),.d (sd [97,115,99,105,105])] (.d (sd (b.map (·.toNat)))):=by
 intro aa Z A s Q E ow vs rm I rs h
 refine aT.bn rs λ_ _ r ao=>aT.bn ao λ_ _ r2 ao=>aT.bO ao<|ag.j' r λt=>ag.bw r2 λu=>?_
 have e:S [97,115,99,105,105]=PySem.Str.ofString "ascii":=by decide+kernel
 refine wpAny_with_toks (Nat.le_refl _) (call_meets FB.slot_bytes_decode (typeIs_bytes _ _ _) FB.entry_bytes_decode (BM _ _) (A2 au hb hz) λt' k ht=>?_)
 exact h _ _ (.str _ _) (.tok I.ok _ ht)
theorem Lc{s:Shared}{O:Addr->Prop}{A:Around}{vs:List Value}{ds:List D}{x:Value}{d:D}(k:Nat)(hu:A.units+1+k < cLine)(r:aq s.heap O vs ds)(rx:ag s.heap O x d)(hk:∀e∈ds,dZ k e d):
  ∃f:Value->Bool,(∀y,y∈vs.toArray->EqAt A.in1 s y x (f y))/\∀(j:Nat) (v:Value) (e:D),vs[j]? =some v->ds[j]? =some e->f v=bA e d:=by
 classical
 let f:Value->Bool:=λy=>decide (∃e,ag s.heap O y e/\dZ k e d/\bA e d=true)
 have key:∀{y e},ag s.heap O y e->e∈ds->f y=bA e d:=by
  intro y e ry he
  by_cases q:bA e d=true
  ·exact ab q<|decide_eq_true ⟨e,ry,hk e he,q⟩
  ·skip
   refine ab (by simpa using q:bA e d=false)<|decide_eq_false ?_
   rintro⟨e',r',k',q''⟩
   rw[yj k r' ry k' (hk e he)]at q''
   exact q q''
 refine aJ f (λy hy=>?_) (λj v e h1 h2=>?_)
 ·obtain⟨j,hj,rfl⟩:=List.mem_iff_getElem.mp (show y∈vs by simpa using hy)
  have gY:j < ds.length:=by exact rB r.length hj
  refine ah (r.get (List.getElem?_eq_getElem gY)) λv ev rv=>?_
  replace ev:=(List.getElem?_eq_getElem hj)▸ev;exact iK ev<|ab (key rv (List.getElem_mem gY))<|qL k A.in1 (by omega) rv rx (hk _ (List.getElem_mem gY))
 ·refine ah (r.get h2) λv' ev rv=>?_
  replace ev:=h1▸ev;exact iK ev<|key rv (List.mem_of_getElem? h2)
theorem Gb{l:LV}{ds:List D}{d:D}{j:Nat}{e:D}(hl:dh l ds)(k:Nat)(hk:∀e∈ds,dZ k e d)(hj:ds[j]? =some e)(he:bA e d=true)(gE:∀m < j,∀e,ds[m]? =some e->bA e d=false)(h50:k<=40)(hz:ds.length<=1000000):
  dm c n (.builtin "list.index") [l,.d d] (.d (.int (j:Int))):=by
 intro aa Z A s Q E ow vs rm I rs h
 refine aT.bn rs λ_ _ r ao=>aT.bn ao λ_ _ r2 ao=>aT.bO ao<|cw (r.eq hl) λa vs am dH ra=>ab am<|aW dH λnn la=>?_
 have aV:=ra.length
 have hjl:j < ds.length:=by
  by_cases q:j < ds.length
  ·exact q
  ·replace hj:=Eq.trans (Eq.symm (List.getElem?_eq_none (by lia))) hj;exact nS hj
 refine ah (Lc (A:=A) k (by have:=mX rm;lia) ra r2 hk) λf hf hfe=>?_
 have d0:∀m (hm:m < vs.toArray.size) e,ds[m]? =some e->f vs.toArray[m]=bA e d:=λm hm e h1=>hfe m _ e (by simp[hm]) h1
 refine call_meets F.slot_list_index ⟨_,la,rfl⟩ F.entry_list_index (F.args_list_index_2 _ _) (list_indexAt _ vs.toArray _ _ _ _ f j (by refine ab List.size_toArray ?_;lia) (by lia) ?_ ?_) ⟨la,λy hy=>hf y hy,?_⟩
 ·exact ab (d0 j _ e hj) he
 ·intro m hm hmj
  have hm':m < ds.length:=by lia
  refine ab (d0 m hm _ (List.getElem?_eq_getElem hm')) ?_
  exact gE m hmj _ (List.getElem?_eq_getElem hm')
 ·exact h _ _ (.int _ _) (.tok I.ok _)
end
section
open PySem.Builtin PySem.Builtin.Str
theorem CD(x y:Str)(i j:Int)(t u v w:Tok):Gives («str.find» ⟨[.str x t,.str y u,.int i v,.int j w],[]⟩) (.int (match occurrences x y (fromIndex x.length i) (min (fromIndex x.length j) x.length) 1 with | k::_=>(k:Int) | []=>-1)):=by
 refine(?_:Gives (match occurrences x y (fromIndex x.length i) (min (fromIndex x.length j) x.length) 1 with | k::_=>retInt k | []=>(do rule "str.find.not-found";retInt (-1))) _)
 cases occurrences x y (fromIndex x.length i) (min (fromIndex x.length j) x.length) 1 with
 | nil=>exact .rule (.of_eq rfl)
 | cons k _=>exact .of_eq rfl
theorem uw(x:List Nat)(c hi i:Nat)(hh:hi<=x.length):StrLaws.At (S x) (S [c]) hi i↔i < hi/\x[i]? =some c:=by
 have h1:=StrLaws.subAt_one (S x) c i
 have e:(S x).cps.toList[i]? =x[i]? :=by rfl
 have l1:(S [c]).length=1:=rfl
 have l2:(⟨#[c]⟩:Str).length=1:=rfl
 unfold StrLaws.At
 refine ab l1 ?_
 rw[l2,dq]at h1
 constructor
 ·rintro⟨h2,h3⟩;exact⟨by exact Nat.succ_le_of_lt ‹_›,h1.mp ⟨by exact Nat.lt_of_lt_of_le ‹_› ‹_›,h3⟩⟩
 ·rintro⟨h2,h3⟩;exact⟨by exact Nat.succ_le_of_lt ‹_›,(h1.mpr h3).2⟩
theorem v8(x:List Nat)(c lo hi:Nat)(hh:hi<=x.length):
  (occurrences (S x) (S [c]) lo hi 1=[]/\∀i,lo<=i->i < hi->x[i]? ≠some c)∨
  ∃i r,occurrences (S x) (S [c]) lo hi 1=i::r/\lo<=i/\i < hi/\x[i]? =some c/\∀k,lo<=k->k < i->x[k]? ≠some c:=by
 rw[StrLaws.occ_eq]
 refine Or.elim (StrLaws.occ_first (S x) (S [c]) hi 1 (Nat.le_refl 1) (List.range' lo (hi+1 - lo)) lo (λi hi=>by have:=List.mem_range'_1.mp hi;lia)) (λob=>bR ob λh0 hn=>?_) (λob=>rO ob λbU a post e h0 ha hn=>?_)
 ·refine .inl ⟨by exact ab h0 rfl,λi hlo eZ e=>?_⟩
  exact hn i (by rw[List.mem_range'_1];lia) ((uw x c hi i hh).mpr ⟨eZ,e⟩)
 ·have hs:=StrLaws.range'_split_from e
  have ha':=(uw x c hi a hh).mp ha
  refine .inr ⟨a,((forIn (List.range' lo (hi+1 - lo)) ((#[]:Array Nat),lo) (StrLaws.occBody (S x) (S [c]) hi 1)).run.fst.toList).tail,?_,hs.1,ha'.1,ha'.2,λk hk0 hk e=>hn k (hs.2 k hk0 hk) ((uw x c hi k hh).mpr ⟨by lia,e⟩)⟩
  generalize(forIn (List.range' lo (hi+1 - lo)) ((#[]:Array Nat),lo) (StrLaws.occBody (S x) (S [c]) hi 1)).run.fst=arr at h0
  have h1:arr.toList[0]? =some a:=by simpa using h0
  cases hL:arr.toList with
  | nil=>replace h1:=hL▸h1;exact nS h1
  | cons b t=>rw[hL]at h1;simp at h1;refine ab h1 ?_;rfl
noncomputable def g9(x:List Nat)(c lo hi:Nat):Int:=match occurrences (S x) (S [c]) lo (min hi x.length) 1 with
 | k::_=>(k:Int)
 | []=>-1
theorem vR{x:List Nat}{c lo hi:Nat}(h:∀i,lo<=i->i < hi->x[i]? ≠some c):g9 x c lo hi=-1:=by
 unfold g9
 rcases v8 x c lo (min hi x.length) (Nat.min_le_right _ _)with⟨h0,_⟩ | ⟨i,r,h0,h1,h2,h3,_⟩
 ·exact ab h0 rfl
 ·exact absurd h3 (h i h1 (by lia))
theorem Ca{x:List Nat}{c lo hi k:Nat}(h1:lo<=k)(h2:k < hi)(h3:x[k]? =some c)(h:∀i,lo<=i->i < k->x[i]? ≠some c):g9 x c lo hi=(k:Int):=by
 have hk:k < x.length:=by
  by_cases q:k < x.length
  ·exact q
  ·replace h3:=Eq.trans (Eq.symm (List.getElem?_eq_none (Nat.not_lt.mp ‹_›))) h3;exact nS h3
 unfold g9
 refine Or.elim (v8 x c lo (min hi x.length) (Nat.min_le_right _ _)) (λob=>bR ob λh0 hn=>?_) (λob=>nM ob λi r h0 g1 g2 g3 g4=>?_)
 ·exact absurd h3 (hn k h1 (by lia))
 ·refine ab h0 ?_
  dsimp only
  rcases Nat.lt_trichotomy i k with q | q | q
  ·exact absurd g3 (h i g1 q)
  ·exact ab q rfl
  ·exact absurd h3 (g4 k h1 q)
theorem Ig{c:Cx}{n:Nat}{x:List Nat}{k lo hi:Nat}:dm c n (.builtin "str.find") [.d (sd x),.d (sd [k]),.d (.int (lo:Int)),.d (.int (hi:Int))] (.d (.int (g9 x k lo hi))):=by
 intro aa Z A s Q E ow vs rm I rs h
 refine aT.bn rs λ_ _ r ao=>aT.bn ao λ_ _ r2 ao=>aT.bn ao λ_ _ r3 ao=>aT.bn ao λ_ _ r4 ao=>aT.bO ao<|ag.bw r λt=>ag.bw r2 λu=>ag.bf r3 λt3=>ag.bf r4 λt4=>call_gives F.slot_str_find (typeIs_str _ _ _) F.entry_str_find (F.args_str_find_4 _ _ _ _) (CD (S x) (S [k]) lo hi t u t3 t4) ?_
 have e1:∀m:Nat,fromIndex (S x).length (m:Int)=m:=λm=>by
  unfold fromIndex
  refine ab (if_neg (Int.not_lt.mpr (Int.natCast_nonneg _))) ?_;rfl
 have e:(match occurrences (S x) (S [k]) (fromIndex (S x).length (lo:Int)) (min (fromIndex (S x).length (hi:Int)) (S x).length) 1 with | k::_=>(k:Int) | []=>-1)=g9 x k lo hi:=by
  rfl
 exact h _ _ (.int _ _) (.tok I.ok _)
end
noncomputable def bF(c:Nat)(z:List Nat)(x:List Nat):List Nat:=x.flatMap λk=>if k=c then z else[k]
theorem wq{c:Nat}{z:List Nat}{x:List Nat}:c∉x->bF c z x=x:=by
 induction x with
 | nil=>
  intro _
  exact rfl
 | cons k r ih=>
  intro h
  have h2:c∉r:=λm=>h (List.mem_cons_of_mem _ m)
  refine(?_:(if k=c then z else[k])++bF c z r=_)
  refine ab (if_neg (λe=>h (e▸List.mem_cons_self ..):¬k=c))<|ab (ih h2) ?_;rfl
theorem vP(c:Nat)(z a b:List Nat):bF c z (a++b)=bF c z a++bF c z b:=by unfold bF;exact ab List.flatMap_append rfl
theorem wo(c:Nat)(z:Str):∀parts:List Str,(∀p∈parts,c∉p.cps.toList)->bF c z.cps.toList (Str.join ⟨#[c]⟩ parts).cps.toList=(Str.join z parts).cps.toList
 | [],_=>rfl
 | [p],h=>wq (h p (List.mem_singleton.mpr rfl))
 | p::q::r,h=>by
  refine(?_:bF c z.cps.toList (p++⟨#[c]⟩++Str.join ⟨#[c]⟩ (q::r)).cps.toList=(p++z++Str.join z (q::r)).cps.toList)
  simp only[Str.cps_append,Array.toList_append]
  rw[vP,vP,(wo c z (q::r) λa ha=>h a (List.mem_cons_of_mem _ ha)),wq (h p (List.mem_cons_self ..))]
  exact ab (by simp[bF]:bF c z.cps.toList [c]=z.cps.toList) rfl
theorem vO(x z:List Nat)(c:Nat):Txt.replace (S x) (S [c]) (S z)=S (bF c z x):=by
 have h2:=wo c (S z) _ (StrLaws.split_free (S x) c)
 rw[StrLaws.join_split]at h2
 refine ab ((StrLaws.replace_one (S x) (S z) c):Txt.replace (S x) (S [c]) (S z)=Str.join (S z) (Txt.split (S x) ⟨#[c]⟩))<|ab (i6 (Str.join (S z) (Txt.split (S x) ⟨#[c]⟩))) ?_;rw[<- h2]
section
variable {c:Cx} {n:Nat} {aa:Env} {Z:Ctx}
theorem CV{A:Around}{s:Shared}{Q:Value->Shared->Prop}{E:Value->Shared->Prop}{x z:List Nat}{k:Nat}{t u v:Tok}(ok:c.Ok)(hu:u≠0)(hv:v≠0)(huv:u≠v)(au:z≠[k])(hx:x.length<=1048576)(hz:z.length<=14)
  (h:∀t' s',Step c s s'->Q (.str (S (bF k z x)) t') s'):wpAny (model pg c.w) A (call (.builtin "str.replace") [.str (S x) t,.str (S [k]) u,.str (S z) v]) Q E s:=by
 have hyz:(S [k]==S z)=false:=by
  rw[beq_eq_false_iff_ne];exact λe=>au (o4 e).symm
 refine wpAny_with_toks (Nat.le_refl _) (SC.replaceW hu hv huv hyz (by exact hx) (by exact hz) λt' k' ht=>?_)
 rw[vO]
 exact h t' _ (.tok ok _ ht)
theorem IV{o:Expr}{ap pos p p':Pos}{k k':Nat}{x z:List Nat}{m:Nat}(tz:c.tz)(h1:Ev c n aa Z o (.d (sd x)))(au:z≠[m])(hx:x.length<=1048576)(hz:z.length<=14)(hb:jY o=true)(hl:(ap.endLine==pos.line)=true):
  Ev c n aa Z (.Call (.Attribute o "replace" ap) [.Constant (.str (S [m])) k p,.Constant (.str (S z)) k' p'] [] pos) (.d (sd (bF m z x))):=by
 refine⟨?_⟩
 intro A s Q E ow rm I q
 refine wpAny_Call_method_late (trees:=backTo pos (starEach [.Constant (.str (S [m])) k p,.Constant (.str (S z)) k' p'] aa)) (oE hb) (by rfl) hl rfl (h1.run A s _ E ow rm I λov s1 ro al=>?_)
 refine ag.bw ro λt=>li ("str") ("str.replace") F.plainAttrs_str F.slot_str_replace F.type_str_replace (typeIs_str _ _ _) (λb e=>nomatch e) (Calls.callWith_builtin rfl (gi rfl (args_cons (Calls.Constant_str (args_cons (Calls.Constant_str (args_nil ?_)) rfl)) rfl)))
 have I1:=I.step al
 have aG:Step c s1 {s1 with toks:=s1.toks+1+1}:=.tok I.ok _
 exact CV I.ok (by exact Nat.ne_of_gt (Nat.lt_of_lt_of_le (I1.ok.tp tz) I1.bs.tk:0 < s1.toks)) (by exact Nat.succ_ne_zero _) (by exact Nat.ne_of_lt (Nat.lt_succ_self _)) au hx hz λt' s' cI=>q _ _ (.str _ _) (al.trans (aG.trans cI))
end
noncomputable def ft:MF->LV->List LV->Option D
 | .join,a,[l]=>(br a).bind λsep=>((bD l).bind lJ).bind λxs=>if(xs.map (·.length)).sum+xs.length * sep.length<=1000000 then some (sd (bT sep xs))else none
 | .decode,a,[l]=>(gA a).bind λb=>(br l).bind λe=>if e=[97,115,99,105,105]/\b≠[]/\b.all (λx=>decide (x.toNat < 128))/\b.length<=1000 then some (sd (b.map (·.toNat)))else none
 | .index,l,[.d d]=>(bD l).bind λds=>if ds.all (λe=>eA 6 e d)/\ds.length<=1000000 then(ds.findIdx? λe=>bA e d).map (λj:Nat=>D.int (j:Int))else none
 | .find,a,[b,lo,hi]=>(br a).bind λx=>(br b).bind λy=>(cq lo).bind λlo=>(cq hi).bind λhi=>(dC y).bind λk=>if 0<=lo/\0<=hi then some (.int (g9 x k lo.toNat hi.toNat))else none
 | _,_,_=>none
theorem wP{a l:LV}:ft .join a [l]=(br a).bind λsep=>((bD l).bind lJ).bind λxs=>if(xs.map (·.length)).sum+xs.length * sep.length<=1000000 then some (sd (bT sep xs))else none:=rfl
theorem vU{a l:LV}:ft .decode a [l]=(gA a).bind λb=>(br l).bind λe=>if e=[97,115,99,105,105]/\b≠[]/\b.all (λx=>decide (x.toNat < 128))/\b.length<=1000 then some (sd (b.map (·.toNat)))else none:=rfl
theorem CP{l:LV}{d:D}:ft .index l [.d d]=(bD l).bind λds=>if ds.all (λe=>eA 6 e d)/\ds.length<=1000000 then(ds.findIdx? λe=>bA e d).map (λj:Nat=>D.int (j:Int))else none:=rfl
theorem DL{a b lo hi:LV}:ft .find a [b,lo,hi]=(br a).bind λx=>(br b).bind λy=>(cq lo).bind λlo=>(cq hi).bind λhi=>(dC y).bind λk=>if 0<=lo/\0<=hi then some (.int (g9 x k lo.toNat hi.toNat))else none:=rfl
section
variable {c:Cx} {n:Nat}
theorem G6{m:MF}{a:LV}{ls:List LV}{r:D}(h:ft m a ls=some r):ux c n (Str.ofString m.name) a ls (.d r):=by
 cases m with
 | join=>
  obtain⟨l,rfl⟩:=u' h
  refine bE h λsep h1 h=>bE h λxs h2 h=>?_
  have bd:=ki h;clear h
  have hz:=bd.1
  have h:=bd.2;clear bd
  refine aC h<|bE h2 λds h3 h4=>?_
  have hl:=eF h3
  replace hl:=(wW h4)▸hl
  exact ab (db h1)<|pB _ _ F.plainAttrs_str F.slot_str_join F.type_str_join nj (yL hl hz)
 | decode=>
  obtain⟨l,rfl⟩:=u' h
  refine bE h λb h1 h=>bE h λe h2 h=>?_
  have bd:=ki h;clear h
  have hz:=bd.1
  have h:=bd.2;clear bd
  refine aC h<|jh hz λaw z1 z2 z3=>?_;subst aw
  exact ab (kO h1)<|ab (db h2)<|pB _ _ FB.plainAttrs_bytes FB.slot_bytes_decode FB.type_bytes_decode GF (Ez z1 (λx hx=>by simpa using List.all_eq_true.mp z2 x hx) z3)
 | index=>
  cases ls with | nil=>cases h | cons l ls=>
  obtain⟨d,rfl⟩:∃d,l=.d d:=by cases l with | d d=>exact⟨_,rfl⟩ | _=>exact nS h
  cases ls with | cons _ _=>cases h | nil=>
  refine bE h λds h1 h=>?_
  have bd:=ki h;clear h
  have hz:=bd.1
  have h:=bd.2;clear bd
  refine ah (Option.map_eq_some_iff.mp h) λj h2 am=>rB am ?_
  have hl:=eF h1
  refine ah (List.findIdx?_eq_some_iff_getElem.mp h2) λhj he gE=>?_
  refine pB _ _ F.plainAttrs_list F.slot_list_index F.type_list_index (IJ hl) (Gb hl 6 (λe he=>t7 _ _ _ (List.all_eq_true.mp hz.1 e he)) (List.getElem?_eq_getElem hj) he (λm hm e hme=>?_) (Nat.le_add_left _ _) hz.2)
  replace hme:=(List.getElem?_eq_getElem (Nat.lt_trans hm hj:m < ds.length))▸hme
  refine aC hme ?_
  simpa using gE m hm
 | find=>
  cases ls with | nil=>cases h | cons b ls=>
  refine cY (u9 (F:=λl=>ft .find a (b::l)) h) λlo hi am=>?_;subst am
  refine bE h λx h1 h=>bE h λy h2 h=>bE h λlo' h3 h=>bE h λeZ h4 h=>bE h λk hk h=>?_
  have bd:=ki h;clear h
  have hz:=bd.1
  have h:=bd.2;clear bd
  refine aC h<|ab (db h1)<|ab (db h2)<|ab (dL h3)<|ab (dL h4)<|ab (eE hk) ?_
  have e2:eZ=((eZ.toNat:Nat):Int):=by lia
  have:=Ig (c:=c) (n:=n) (x:=x) (k:=k) (lo:=lo'.toNat) (hi:=eZ.toNat)
  rw[<- (by lia:lo'=((lo'.toNat:Nat):Int)),<- e2]at this
  exact pB _ _ F.plainAttrs_str F.slot_str_find F.type_str_find nj this
 | _=>exact nS h
end
end
section
namespace cy
open PySem.Sre
noncomputable def C:Array Nat:=#[14,14,4,1,1,9,0,64,0,1342177280,0,0,0,0,0,17,0,13,11,9,0,64,0,1342177280,0,0,0,0,0,17,1,1]
noncomputable def isSp(c:Nat):Bool:=c==38||c==124||c==126
theorem xG:∀c < 256,((C.getD (5+(1+c / 32)) 0).testBit (c % 32))=isSp c:=by decide+kernel
theorem xr(fuel c:Nat)(seen:Sre.Seen)(i:Nat)(hi:i=5∨i=19)(h:isSp c=true):∃seen',inSet C c (fuel+1) i true seen=.ok (true,seen'):=by
 have hc:c < 256:=by
  unfold isSp at h
  simp only[Bool.or_eq_true,beq_iff_eq]at h
  lia
 have hw2:∀c < 256,((C.getD (19+(1+c / 32)) 0).testBit (c % 32))=isSp c:=by decide+kernel
 rcases hi with rfl | rfl
 ·refine⟨seen.add 9,?_⟩
  refine(?_:(if(decide (c < 256)&&(C.getD (5+(1+c / 32)) 0).testBit (c % 32))=true then _ else _)=_)
  refine ab (xG c hc)<|ab h<|ab (decide_eq_true hc) ?_;rfl
 ·refine⟨seen.add 9,?_⟩
  refine(?_:(if(decide (c < 256)&&(C.getD (19+(1+c / 32)) 0).testBit (c % 32))=true then _ else _)=_)
  refine ab (hw2 c hc)<|ab h<|ab (decide_eq_true hc) ?_;rfl
theorem wE(fuel c:Nat)(seen:Sre.Seen)(h:isSp c=false):∃seen',inSet C c (fuel+2) 5 true seen=.ok (false,seen'):=by
 refine⟨(seen.add 9).add 0,?_⟩
 refine(?_:(if(decide (c < 256)&&(C.getD (5+(1+c / 32)) 0).testBit (c % 32))=true then _ else inSet C c (fuel+1) 14 true (seen.add 9))=_)
 by_cases hc:c < 256
 ·rw[xG c hc,h,Bool.and_false,if_neg (by decide)];rfl
 ·rw[decide_eq_false hc,Bool.false_and,if_neg (by decide)];rfl
theorem BO(m:M)(hc:m.code=C)(fuel:Nat):∀(s:Nat) (seen:Sre.Seen),(∀i,s<=i->i < m.lim->isSp (m.text.getD i 0)=false)->∃seen',M.admitted m fuel s seen=.ok (none,seen'):=by
 induction fuel with
 | zero=>
  intro s seen _
  exact⟨seen,rfl⟩
 | succ fuel ih=>
  intro s seen h
  dsimp only[M.admitted]
  by_cases hs:s >= m.lim
  ·exact⟨seen,by exact ab (if_pos hs) rfl⟩
  ·exact ab (if_neg hs)<|aW (wE 30 (m.text.getD s 0) seen (h s (Nat.le_refl _) (Nat.not_le.mp ‹_›))) λsn e=>ab hc<|ab (show C.size=30+2 from rfl)<|ab e<|ih (s+1) sn λi h1 h2=>h i (Nat.le_of_lt ‹_›) h2
theorem BN(m:M)(hc:m.code=C)(q:Nat)(hq:q < m.lim)(iq:isSp (m.text.getD q 0)=true)(fuel:Nat):∀(s:Nat) (seen:Sre.Seen),s<=q->q < s+fuel->(∀i,s<=i->i < q->isSp (m.text.getD i 0)=false)->∃seen',M.admitted m fuel s seen=.ok (some q,seen'):=by
 induction fuel with
 | zero=>
  intro s seen h1 h2 _
  exact absurd ‹_› (Nat.not_lt.mpr ‹_›)
 | succ fuel ih=>
  intro s seen h1 h2 h
  dsimp only[M.admitted]
  refine ab (if_neg (by lia))<|ab hc ?_
  by_cases e:s=q
  ·subst e
   obtain⟨sn,e⟩:=xr 31 (m.text.getD s 0) seen 5 (.inl rfl) iq
   exact ab (show C.size=31+1 from rfl)<|ab e<|⟨sn,rfl⟩
  ·exact aW (wE 30 (m.text.getD s 0) seen (h s (Nat.le_refl _) (Nat.lt_of_le_of_ne ‹_› ‹_›))) λsn e2=>ab (show C.size=30+2 from rfl)<|ab e2<|ih (s+1) sn (Nat.lt_of_le_of_ne ‹_› ‹_›) (by lia) λi h1 h2=>h i (Nat.le_of_lt ‹_›) h2
noncomputable def m1(T:Array Nat)(L q:Nat)(sn:Sre.Seen):M:=
 {code:=C,text:=T,lim:=L,start:=q,lastStart:=L,pc:=15,pos:=q,handed:=q,marks:=#[none,none],frames:=[{wait:=.nextStart,pc:=15,pos:=q,outermost:=true}],weight:=1,seen:=sn}
noncomputable def m9(T:Array Nat)(L q:Nat)(sn:Sre.Seen):M:=
 {code:=C,text:=T,lim:=L,start:=q,lastStart:=L,pc:=15,pos:=q,handed:=q+1,marks:=#[some q,some (q+1)],lastmark:=1,lastindex:=1,frames:=[],weight:=0,seen:=sn,answer:=some true,outcome:=some .matched}
theorem Co{T:Array Nat}{L s q:Nat}{must:Bool}(h1:s<=q)(h2:q < L)(hq:isSp (T.getD q 0)=true)(hn:∀i,s<=i->i < q->isSp (T.getD i 0)=false):∃sn,forSearch C T 1 s L must=m1 T L q sn:=by
 have hcond:(decide (s > L)||decide (L - s < 1))=false:=by
  rw[Bool.or_eq_false_iff];exact⟨decide_eq_false (by lia),decide_eq_false (by lia)⟩
 let m0:M:={code:=C,text:=T,lim:=L,start:=s,lastStart:=L,pc:=15,pos:=s,handed:=s,marks:=#[none,none],mustAdvance:=must,seen:=({}:Sre.Seen).add 14}
 obtain⟨sn,e⟩:=BN m0 rfl q h2 hq (L+1 - s) s m0.seen h1 (by lia) hn
 refine⟨sn,?_⟩
 refine(?_:(if(decide (s > L)||decide (L - s < 1))=true then _ else M.attemptFrom m0 s true)=_)
 refine ab hcond<|ab (if_neg (by decide)) ?_
 refine(?_:(if(!M.hasFirstSet m0)=true then _ else match M.admitted m0 (L+1 - s) s m0.seen with | .ok (some s,seen)=>_ | .ok (none,seen)=>_ | .error why=>_)=_)
 refine ab e<|ab (if_neg (show ¬((!M.hasFirstSet m0)=true)from Bool.false_ne_true)) ?_
 rfl
theorem Cp{T:Array Nat}{L s:Nat}{must:Bool}(hn:∀i,s<=i->i < L->isSp (T.getD i 0)=false):∃m:M,forSearch C T 1 s L must=M.say m false/\m.frames=[]/\m.outcome=none:=by
 by_cases hs:(decide (s > L)||decide (L - s < 1))=true
 ·let m0:M:={code:=C,text:=T,lim:=L,start:=s,pc:=15,pos:=s,handed:=s,marks:=#[none,none],mustAdvance:=must,seen:=({}:Sre.Seen).add 14}
  refine⟨m0,?_,rfl,rfl⟩
  show(if(decide (s > L)||decide (L - s < 1))=true then m0.say false else _)=_
  exact ab (if_pos hs) rfl
 ·let m0:M:={code:=C,text:=T,lim:=L,start:=s,lastStart:=L,pc:=15,pos:=s,handed:=s,marks:=#[none,none],mustAdvance:=must,seen:=({}:Sre.Seen).add 14}
  refine aW (BO m0 rfl (L+1 - s) s m0.seen hn) λsn e=>nN ({m0 with seen:=sn}) ?_ rfl rfl
  refine(?_:(if(decide (s > L)||decide (L - s < 1))=true then _ else M.attemptFrom m0 s true)=_)
  refine ab (if_neg hs) ?_
  refine(?_:(if(!M.hasFirstSet m0)=true then _ else match M.admitted m0 (L+1 - s) s m0.seen with | .ok (some s,seen)=>_ | .ok (none,seen)=>_ | .error why=>_)=_)
  refine ab e ?_;rw[if_neg (show ¬((!M.hasFirstSet m0)=true)from Bool.false_ne_true)]
theorem DP{T:Array Nat}{q:Nat}{sn:Sre.Seen}(hq:isSp (T.getD q 0)=true):∃sn',accepts C 17 (T.getD q 0) sn=.ok (true,sn'):=by
 exact aW (xr 31 (T.getD q 0) sn 19 (.inr rfl) hq) λs' e=>⟨s',e⟩
noncomputable def m5(T:Array Nat)(L q:Nat)(sn:Sre.Seen):M:=
 {code:=C,text:=T,lim:=L,start:=q,lastStart:=L,pc:=31,pos:=q+1,handed:=q+1,marks:=#[some q,some (q+1)],lastmark:=1,lastindex:=1,frames:=[{wait:=.nextStart,pc:=15,pos:=q,outermost:=true}],weight:=1,seen:=sn,answer:=some true}
noncomputable def a2(T:Array Nat)(L q:Nat)(sn:Sre.Seen):M:={code:=C,text:=T,lim:=L,start:=q,lastStart:=L,pc:=17,pos:=q,handed:=q,marks:=#[some q,none],lastmark:=0,frames:=[{wait:=.nextStart,pc:=15,pos:=q,outermost:=true}],weight:=1,seen:=sn}
noncomputable def a3(T:Array Nat)(L q:Nat)(sn:Sre.Seen):M:={code:=C,text:=T,lim:=L,start:=q,lastStart:=L,pc:=29,pos:=q+1,handed:=q,marks:=#[some q,none],lastmark:=0,frames:=[{wait:=.nextStart,pc:=15,pos:=q,outermost:=true}],weight:=1,seen:=sn}
noncomputable def a4(T:Array Nat)(L q:Nat)(sn:Sre.Seen):M:={code:=C,text:=T,lim:=L,start:=q,lastStart:=L,pc:=31,pos:=q+1,handed:=q,marks:=#[some q,some (q+1)],lastmark:=1,lastindex:=1,frames:=[{wait:=.nextStart,pc:=15,pos:=q,outermost:=true}],weight:=1,seen:=sn}
theorem NB(T:Array Nat)(L q:Nat)(sn:Sre.Seen):(m1 T L q sn).step=a2 T L q (sn.add 17):=rfl
theorem Lp(T:Array Nat)(L q:Nat)(sn:Sre.Seen):(a3 T L q sn).step=a4 T L q (sn.add 17):=by kernel_rfl
theorem Lo(T:Array Nat)(L q:Nat)(sn:Sre.Seen):(a4 T L q sn).step=m5 T L q (sn.add 1):=by kernel_rfl
theorem JG{T:Array Nat}{L q:Nat}{sn:Sre.Seen}(h2:q < L)(hq:isSp (T.getD q 0)=true):∃sn',M.runFor 4 (m1 T L q sn)=m5 T L q sn':=by
 refine aW (DP (sn:=(sn.add 17).add 13) hq) λsn3 e=>?_
 have e2:(a2 T L q (sn.add 17)).step=a3 T L q sn3:=by
  show(if q >= L then _ else match accepts C 17 (T.getD q 0) ((sn.add 17).add 13)with | .error why=>_ | .ok (false,seen)=>_ | .ok (true,seen)=>_)=a3 T L q sn3
  rw[if_neg (Nat.not_le.mpr ‹_›),e]
  rfl
 refine⟨(sn3.add 17).add 1,?_⟩
 show M.runFor 3 (m1 T L q sn).step=_
 show M.runFor 2 (a2 T L q (sn.add 17)).step=_
 rw[e2]
 show M.runFor 1 (a3 T L q sn3).step=_
 rw[Lp]
 exact Lo ..
theorem JH(T:Array Nat)(L q:Nat)(sn:Sre.Seen):M.runFor 4 (m5 T L q sn)=m9 T L q sn:=by kernel_rfl
section
open PySem.Builtin.Re
variable {Md:Model} {A:Around} {E:Value->Shared->Prop} {s:Shared}
theorem xE{Q:Unit->Shared->Prop}(f:Nat->Bool)(g:Nat->String)(h:Q () s)(l:List Nat):wpAny Md A (forIn l () λi (_:Unit)=>if f i=true then(do rule (g i);pure (ForInStep.yield ()))else pure (ForInStep.yield ())) Q E s:=by
 induction l with
 | nil=>
  exact wpAny_pure h
 | cons i r ih=>
  rw[List.forIn_cons]
  by_cases hf:f i=true
  ·exact ab (if_pos hf)<|wpAny_bind (wpAny_bind (wpAny_rule (wpAny_pure (ih))))
  ·exact ab (if_neg hf)<|wpAny_bind (wpAny_pure (ih))
theorem E0{m a b:Sre.M}{Q:Sre.M->Shared->Prop}(h1:Sre.M.runFor 4 m=a)(h1n:a.outcome=none)(h2:Sre.M.runFor 4 a=b)(h2n:b.outcome.isSome=true)(h:Q b s):wpAny Md A (reDrive (2 ^ 64) m) Q E s:=by
 show wpAny Md A (if(Sre.M.runFor 4 m).outcome.isSome then _ else _) Q E s
 rw[h1,h1n]
 refine wpAny_bind (wpAny_rule ?_)
 rw[reDrive,show Sre.M.runFor reTurnSteps m=a from h1]
 show wpAny Md A (if(Sre.M.runFor 4 a).outcome.isSome then pure (Sre.M.runFor 4 a)else _) Q E s
 exact ab h2<|ab (if_pos h2n)<|wpAny_pure h
theorem E1{m b:Sre.M}{Q:Sre.M->Shared->Prop}(h2:Sre.M.runFor 4 m=b)(h2n:b.outcome.isSome=true)(h:Q b s):wpAny Md A (reDrive (2 ^ 64) m) Q E s:=by
 show wpAny Md A (if(Sre.M.runFor 4 m).outcome.isSome then pure (Sre.M.runFor 4 m)else _) Q E s
 rw[h2,if_pos h2n]
 exact wpAny_pure h
theorem run_some{T:Array Nat}{L p q:Nat}{must:Bool}{Q:Option Sre.M->Shared->Prop}(h1:p<=q)(h2:q < L)(hq:isSp (T.getD q 0)=true)(hn:∀i,p<=i->i < q->isSp (T.getD i 0)=false)(h:∀sn,Q (some (m9 T L q sn)) s):
  wpAny Md A (reRunToEnd (forSearch C T 1 p L must)) Q E s:=by
 refine aW (Co (must:=must) h1 h2 hq hn) λsn e=>aW (JG (sn:=sn) h2 hq) λsn' e'=>ab e<|wpAny_bind (E0 e' rfl (JH T L q sn') rfl ?_)
 refine wpAny_bind<|xE (λi=>(m9 T L q sn').seen.has i) (λi=>Sre.names.getD i "") ?_ _
 exact wpAny_pure (h sn')
theorem run_none{T:Array Nat}{L p:Nat}{must:Bool}{Q:Option Sre.M->Shared->Prop}(hn:∀i,p<=i->i < L->isSp (T.getD i 0)=false)(h:Q none s):
  wpAny Md A (reRunToEnd (forSearch C T 1 p L must)) Q E s:=by
 refine gV (Cp (must:=must) hn) λm e hf ho=>ab e ?_
 have e4:Sre.M.runFor 4 (m.say false)={m.say false with outcome:=some .failed}:=by
  obtain⟨c1,c2,c3,c4,c5,c6,c7,c8,c9,c10,c11,c12,c13,c14,c15,c16,c17,c18,c19,c20,c21⟩:=m
  simp only at hf ho
  subst hf ho
  rfl
 refine wpAny_bind (E1 e4 rfl ?_)
 refine wpAny_bind<|xE (λi=>_) (λi=>Sre.names.getD i "") ?_ _
 exact wpAny_pure h
end
end cy
end
section
theorem Bq:PlainAttrs "re.Pattern":=
 ⟨⟨"object.__getattribute__",by kernel_rfl,by decide+kernel⟩,by kernel_rfl⟩
theorem Br:PlainAttrs "re.Match":=
 ⟨⟨"object.__getattribute__",by kernel_rfl,by decide+kernel⟩,by kernel_rfl⟩
theorem v4:Slot "re.Pattern" "sub" "re.Pattern.sub":=
 .of (owner:="re.Pattern") (n:="sub") (by kernel_rfl) (by decide+kernel) (by decide+kernel) (by decide+kernel)
  (by first | exact .inl (by decide+kernel) | exact .inr (by decide+kernel)) (by kernel_rfl)
theorem Ck:typeOf (.builtin "re.Pattern.sub")=pure (.type "method_descriptor"):=by show builtinType _=_;rw[builtinType_eq_fast];kernel_rfl
theorem Cc:entryFor table "re.Pattern.sub"=some Builtin.«re.Pattern.sub»:=entryFor_of_tree (by kernel_rfl)
theorem CT(a b c:Value):argsOk "re.Pattern.sub" ⟨[a,b,c],[]⟩:=by kernel_rfl
theorem DA:entryFor table "re.Pattern.sub.loop"=some Builtin.«re.Pattern.sub.loop»:=entryFor_of_tree (by kernel_rfl)
theorem sD:plainId "re.Pattern.sub.loop"=true:=by decide+kernel
theorem vH:Slot "re.Match" "group" "re.Match.group":=
 .of (owner:="re.Match") (n:="group") (by kernel_rfl) (by decide+kernel) (by decide+kernel) (by decide+kernel)
  (by first | exact .inl (by decide+kernel) | exact .inr (by decide+kernel)) (by kernel_rfl)
theorem Bn:typeOf (.builtin "re.Match.group")=pure (.type "method_descriptor"):=by show builtinType _=_;rw[builtinType_eq_fast];kernel_rfl
theorem Bk:entryFor table "re.Match.group"=some Builtin.«re.Match.group»:=entryFor_of_tree (by kernel_rfl)
theorem BL(a b:Value):argsOk "re.Match.group" ⟨[a,b],[]⟩:=by kernel_rfl
theorem GJ:typeLookup (.type "function") "__call__"=pure (some (.builtin "function.__call__")):=by kernel_rfl
structure fI(s s':Shared):Prop where
 keep:∀a o,s.heap.get? a=some o->s'.heap.get? a=some o
 sz:s.heap.objs.size<=s'.heap.objs.size
 os:s'.os=s.os
 gens:s'.gens=s.gens
 tk:s.toks<=s'.toks
theorem fI.refl(s:Shared):fI s s:=⟨λ_ _ e=>e,Nat.le_refl _,rfl,rfl,Nat.le_refl _⟩
theorem fI.trans{a b c:Shared}(x:fI a b)(y:fI b c):fI a c:=⟨λp o e=>y.keep p o (x.keep p o e),Nat.le_trans x.sz y.sz,y.os.trans x.os,y.gens.trans x.gens,Nat.le_trans x.tk y.tk⟩
theorem fI.step{c:Cx}(ok:c.Ok){s s':Shared}(x:fI s s'):Step c s s':=.keep ok x.sz x.keep x.os x.gens x.tk
theorem r6{p q:Pos}(h1:p.line=q.line)(h2:p.col=q.col)(l:List Value):codeAmong p l=codeAmong q l:=by
 fun_induction codeAmong p l with
 | case1 line t col u c ao hc=>rw[codeAmong,<- h1,<- h2,if_pos hc]
 | case2 line t col u c ao hc ih=>rw[codeAmong,<- h1,<- h2,if_neg hc];exact ih
 | case3 l h=>
  unfold codeAmong;split
  ·exact absurd rfl (h _ _ _ _ _ _)
  ·rfl
theorem vC{p:Pos}{a b:Int}{c:Value}(au:((a==(p.line:Int))&&(b==(p.col:Int)))=false)(l:List Value)(h:TriplesOk l):codeAmong p (l++[rawInt a,rawInt b,c])=codeAmong p l:=by
 fun_induction TriplesOk l with
 | case1=>simp only[List.nil_append,codeAmong,rawInt];exact ab (if_neg (by exact ab au<|of_decide_eq_true rfl)) rfl
 | case2 a' t b' u x ao ih=>simp only[List.cons_append,codeAmong];exact ab (ih h) rfl
 | case3 l h1 h2=>exact h.elim
section
variable {c:Cx} {n:Nat} {aa:Env} {Z:Ctx}
theorem tS{w:World}{h:Heap}(S:gh w h):CodeHd h 68 64:=by
 exact MZ _ _ _ _ _ ⟨_,_,_,_,(S.k 68 _ (by rfl)),rfl,rfl,rfl,rfl,rfl,rfl,rfl,rfl,by exact of_decide_eq_true rfl⟩
theorem wQ{w:World}{h:Heap}(S:gh w h):∃mg,h.Ns mainGlobals mg/\h.BuiltinsAt mg 64:=by
 exact gV S.g λmg h1 h2 _=>aJ mg h1 ⟨4,_,h2 ("__builtins__",.ref 4) (by decide+kernel),by exact Nat.succ_ne_zero _,by exact of_decide_eq_true rfl,by exact of_decide_eq_true rfl,(S.k 4 _ (by rfl)),rfl,rfl,rfl⟩
theorem xh{args:Arguments}{body:Expr}{bz:Scope}(h:nw args body bz=true):
  (∃p,args=⟨[],[⟨"_m",none,p⟩],none,[],[],none,[]⟩)/\
  (∃k1 p1 p2 ap k2 p3 pos k3 p4 bp p5,(ap.endLine==pos.line)=true/\body=.BinOp (.Constant (.str (S [92])) k1 p1) .Add (.BoolOp .Or [.Call (.Attribute (.Name "_m" p2) "group" ap) [.Constant (.int 1) k2 p3] [] pos,.Constant (.str (S [])) k3 p4] bp) p5)/\
  bz.names=[(Str.ofString "_m",NameKind.local)]/\bz.kind=.function/\bz.isGenerator=false/\bz.isCoroutine=false:=by
 refine a2 h λh h8=>a7 h λh1 h2 h3 h4 h5 h6 h7=>⟨aQ h1 λs=>⟨_,rfl⟩,aQ h2 λs=>⟨_,_,_,_,_,_,_,_,_,_,_,s.2.2.1.2.1.1.2,rfl⟩,?_,eq_of_beq h5,n1 h6,n1 h7⟩
 have h3:=eq_of_beq h3
 have h4:=eq_of_beq h4
 revert h3 h4
 cases bz.names with
 | nil=>exact λh=>nomatch h
 | cons p r=>
  cases r with
  | cons _ _=>exact λh=>nomatch h
  | nil=>
   refine λ_ h4=>?_
   rw[List.lookup_cons]at h4
   cases hq:(Str.ofString "_m"==p.1)with
   | true=>rw[hq]at h4;exact congrArg (·::[]) (Prod.ext (eq_of_beq hq).symm (Option.some.inj h4))
   | false=>rw[hq]at h4;exact nS h4
theorem DQ{args:Arguments}{body:Expr}{bz:Scope}{f5:Pos}{A:Around}{s:Shared}{ow:Ow}{Q:Value->Shared->Prop}{E:Value->Shared->Prop}(I:Inv c aa Z ow s)(iD:aa.code=.ref 68)(hqual:aa.qual="_translate.<locals>.")(hl:nw args body bz=true)
  (gc:f5.line=lM.line) (eW:f5.col=lM.col)
  (h:∀f s' pm cv ct,Step c s s'->s.heap.objs.size<=f->s'.heap.get? f=some {cls:=.type "function",data:=.func (kla_fn "<lambda>" gL args body bz [] pm cv ct)}->s'.heap.CodeRec cv gL->Q (.ref f) s'):
  wpAny (model pg c.w) A (eval (.Lambda args body bz f5) aa) Q E s:=by
 refine my (xh hl) λaw _ hnames _ _ _=>?_;obtain⟨p,rfl⟩:=aw
 have hq:aa.qual++"<lambda>"=gL:=by refine ab hqual ?_;decide+kernel
 show wpAny _ A (do
  let dv <- evalAll ([]:List (Sem Value))
  let kdv <- holding dv (evalAllOpt ([]:List (Option (Sem Value))))
  makeFunction "<lambda>" (aa.qual++"<lambda>") ⟨[],[⟨"_m",none,p⟩],none,[],[],none,[]⟩ (.expr body) bz aa dv kdv [] f5 f5.line) Q E s
 refine wpAny_bind (wpAny_pure (wpAny_bind (wpAny_holding (wpAny_pure ?_))))
 refine ab hq ?_
 have dS:closureFor bz aa=pure []:=closureFor_none λx hx=>by
  rw[hnames]at hx
  simp only[List.mem_cons,List.not_mem_nil,or_false]at hx
  exact ab hx<| λe=>nomatch e
 refine gC (I.ok.tabJ _ I.bs.j) λps t1 t2 t3 t4=>ah (wQ I.bs.sta) λmg hg hb=>?_
 cases hca:codeAmong f5 ps.toList with
 | some cv=>
  refine wpAny_with_toks (Nat.le_refl _) (kla_makeFunctionHit dS I.frm.glob hg iD (tS I.bs.sta) t1 t2 hca hb λctv h' tk hk hz ht=>?_)
  have hrec:=t3 cv (by rw[<- r6 gc eW];exact hca)
  refine h _ _ _ cv ctv (.keep I.ok ?_ (λa o e=>Heap.get?_push_of_some _ (hk a o e)) rfl rfl ht) (by lia) (Heap.get?_push_size _ rfl) ?_
  ·skip
   rw[Heap.size_push];exact Nat.le_succ_of_le ‹_›
  ·exact jQ hrec λa o vs t e1 e2 e3 e4=>rS a o vs t e1 (Heap.get?_push_of_some _ (hk _ _ e2)) e3 e4
 | none=>
  refine wpAny_with_toks (Nat.le_refl _) (kla_makeFunction dS I.frm.glob hg iD (tS I.bs.sta) t1 t2 hca (of_decide_eq_true rfl) hb λc' ctv h' tk hx gf bl hrec htab ht=>?_)
  have hnew:∀a o,a≠64->s.heap.get? a=some o->(h'.push (kla_obj "<lambda>" gL ⟨[],[⟨"_m",none,p⟩],none,[],[],none,[]⟩ body bz [] ((mg "__name__").getD .none) c' ctv)).get? a=some o:=λa o au e=>Heap.get?_push_of_some _ (hx a o au e)
  have hrecp:∀(cv:Value) (q:Str),h'.CodeRec cv q->(h'.push (kla_obj "<lambda>" gL ⟨[],[⟨"_m",none,p⟩],none,[],[],none,[]⟩ body bz [] ((mg "__name__").getD .none) c' ctv)).CodeRec cv q:=λcv q ⟨a,o,vs,t,e1,e2,e3,e4⟩=>⟨a,o,vs,t,e1,Heap.get?_push_of_some _ e2,e3,e4⟩
  have hl64:(ps++#[rawInt f5.line,rawInt f5.col,Value.ref c']).toList=ps.toList++[rawInt f5.line,rawInt f5.col,.ref c']:=by simp
  have htj:kv (h'.push (kla_obj "<lambda>" gL ⟨[],[⟨"_m",none,p⟩],none,[],[],none,[]⟩ body bz [] ((mg "__name__").getD .none) c' ctv)):=by
   refine pD _ (Heap.get?_push_of_some _ htab) (by exact ab hl64<|TriplesOk_snoc _ _ _ _ t2) (λcv e=>?_) (λcv e=>?_)
   ·rw[hl64,<- r6 gc eW,codeAmong_snoc _ t2 hca]at e
    exact aC e<|hrecp _ _ hrec
   ·rw[hl64,vC (by refine ab gc<|ab eW ?_;rfl) _ t2]at e
    refine jQ (t4 cv e) λa o vs t e1 e2 e3 e4=>hrecp _ _ ⟨a,o,vs,t,e1,hx a o (λq=>?_) e2,e3,e4⟩
    subst q
    replace e2:=t1▸e2;obtain rfl:=Option.some.inj e2
    cases e3
    match hps:ps.toList,t2 with
    | [],_=>
     have:ps=#[]:=by simpa using hps
     subst this;exact nS e4
    | .int _ _::.int _ _::_::ao,_=>
     replace e4:=hps▸(by simp:ps[1]? =ps.toList[1]?)▸e4;cases e4
  refine h _ _ _ (.ref c') ctv ⟨⟨?_,λa o hv e=>hnew a o (λq=>hv (q▸I.ok.tab)) e⟩,λhj=>I.ok.tabK _ _ hj hnew htj,rfl,id,ht⟩ (Nat.le_trans ‹_› (Nat.le_of_lt ‹_›)) (Heap.get?_push_size _ rfl) (hrecp _ _ hrec)
  rw[Heap.size_push];lia
end
noncomputable def nb(h:Heap)(m:Addr)(x:List Nat)(tx:Tok)(q:Nat):Prop:=
 ∃L tp,h.get? m=some {cls:=.type "re.Match",data:=.fields #[.str (S x) tx,.ref 43,.int 0 0,.int L 0,.int 1 0,.ref tp]}/\h.get? tp=some {cls:=.type "tuple",data:=.seq #[.int q 0,.int ((q+1:Nat):Int) 0,.int q 0,.int ((q+1:Nat):Int) 0]}
theorem nb.keeps{h h':Heap}{m:Addr}{x:List Nat}{tx:Tok}{q:Nat}(y:nb h m x tx q)(k:∀a o,h.get? a=some o->h'.get? a=some o):nb h' m x tx q:=
 cR y λL tp h1 h2=>⟨L,tp,k _ _ h1,k _ _ h2⟩
section
variable {prog:Program} {w:World} {A:Around} {E:Value->Shared->Prop} {s:Shared} {x:List Nat} {tx:Tok} {q k:Nat} {m:Addr}
theorem CG(hk:x[q]? =some k):(⟨(S x).cps.extract q (q+1)⟩:Str)=S [k]:=by
 have hq:q < x.length:=by
  by_cases h:q < x.length
  ·exact h
  ·replace hk:=Eq.trans (Eq.symm (List.getElem?_eq_none (Nat.not_lt.mp ‹_›))) hk;exact nS hk
 have e:(S x).cps.extract q (q+1)=#[k]:=by
  apply Array.ext'
  simp only[Array.toList_extract]
  show(x.drop q).take (q+1 - q)=[k]
  refine ab (show q+1 - q=1 by lia) ?_;rw[take_one,hk];rfl
 exact ab e rfl
open PySem.Builtin.Re in
theorem DK{Q:Value->Shared->Prop}{t:Tok}(hm:nb s.heap m x tx q)(hk:x[q]? =some k)(h:Q (.str (S [k]) s.toks) {s with toks:=s.toks+1}):wpAny (model prog w) A (call (.builtin "re.Match.group") [.ref m,.int 1 t]) Q E s:=by
 refine cR hm λL tp h1 h2=>wpAny_call_entry vH ⟨_,h1,rfl⟩ Bk ?_ (BL _ _)
 refine wpAny_bind (wpAny_of_eq (a:=()) (by rfl) ?_)
 dsimp only
 refine wpAny_bind (wpAny_bind (wpAny_fieldsOf h1 rfl ?_))
 refine wpAny_bind (wpAny_bind ?_)
 refine wpAny_seqItems h2 rfl (wpAny_pure (wpAny_pure ?_))
 refine wpAny_bind (wpAny_of_eq (a:=1) (by kernel_rfl) ?_)
 refine wpAny_bind<|ab (by simp[reRawOf]:Array.map reRawOf ((some #[Value.int ((q:Nat):Int) 0,.int ((q+1:Nat):Int) 0,.int ((q:Nat):Int) 0,.int ((q+1:Nat):Int) 0]).getD #[])=#[((q:Nat):Int),((q+1:Nat):Int),((q:Nat):Int),((q+1:Nat):Int)])<|(?_:wpAny _ _ (if(decide (((q:Nat):Int) < 0)||decide ((((q+1:Nat):Int)) < 0))=true then pure .none else(reTextOf (.str (S x) tx) >>= λ(text,kind)=>reSlice text kind ((q:Nat):Int).toNat ((q+1:Nat):Int).toNat)) _ _ s)
 refine wpAny_bind (wpAny_of_eq (a:=((S x).cps,0)) (by rfl) ?_)
 refine(?_:wpAny _ _ (mkStr ⟨(S x).cps.extract ((q:Nat):Int).toNat ((q+1:Nat):Int).toNat⟩) _ _ s)
 rw[Int.toNat_natCast,Int.toNat_natCast,CG hk]
 exact wpAny_mkStr (wpAny_pure ⟨_,rfl,h⟩) (by rw[dq,sizeLine_eq];simp)
theorem CN{args:Arguments}{body:Expr}{bz:Scope}{f:Addr}{pm cv ct:Value}{Q:Value->Shared->Prop}(hl:nw args body bz=true)(hf:s.heap.get? f=some {cls:=.type "function",data:=.func (kla_fn "<lambda>" gL args body bz [] pm cv ct)})
  (gg:s.heap.CodeRec cv gL) (hlim:s.heap.NoLimit) (hd:A.depth<=900) (hm:nb s.heap m x tx q) (hk:x[q]? =some k) (h:∀t s',fI s s'->Q (.str (S [92,k]) t) s'):wpAny (model prog w) A (call (.ref f) [.ref m]) Q E s:=by
 refine my (xh hl) λaw bd hnames hkind hgen fb=>?_;obtain⟨p,rfl⟩:=aw;refine rN bd λk1 p1 p2 ap k2 ar=>rN ar λp3 pos k3 p4 bp ar=>ah ar λp5 i7 am=>?_;subst am
 refine wpAny_call (kla_callFunE (by refine(?_:A.depth < 1000);exact Nat.lt_of_le_of_lt ‹_› (Nat.le_of_ble_eq_true rfl)) hf rfl fb hgen rfl gg ?_)
 refine wpAny_of_eq (a:=[(Str.ofString "_m",Value.ref m)]) (by rfl)<|wpAny_newFunctionEnv (λy hy=>?_) (λy hy=>?_) (λh' fA hsb=>?_) hkind
 ·have hy':y∈bz.names:=hy
  rw[hnames]at hy'
  simp only[List.mem_cons,List.not_mem_nil,or_false]at hy'
  exact ab hy'<| λe=>nomatch e
 ·simp only[List.mem_cons,List.not_mem_nil,or_false]at hy
  refine ab hy<|ab hnames ?_;rfl
 have hkeep:∀a o,s.heap.get? a=some o->h'.get? a=some o:=λa o e=>(hsb.2 a (Nat.ne_of_lt (Heap.lt_size e))).trans (Heap.get?_push_of_some _ e)
 have cj:s.heap.objs.size<=h'.objs.size:=by refine ab hsb.1 ?_;rw[Heap.size_push];exact Nat.le_succ _
 generalize henv:newEnv (kla_fn "<lambda>" gL ⟨[],[⟨"_m",none,p⟩],none,[],[],none,[]⟩ (.BinOp (.Constant (.str (S [92])) k1 p1) .Add (.BoolOp .Or [.Call (.Attribute (.Name "_m" p2) "group" ap) [.Constant (.int 1) k2 p3] [] pos,.Constant (.str (S [])) k3 p4] bp) p5) bz [] pm cv ct).scope s.heap.objs.size (kla_fn "<lambda>" gL ⟨[],[⟨"_m",none,p⟩],none,[],[],none,[]⟩ (.BinOp (.Constant (.str (S [92])) k1 p1) .Add (.BoolOp .Or [.Call (.Attribute (.Name "_m" p2) "group" ap) [.Constant (.int 1) k2 p3] [] pos,.Constant (.str (S [])) k3 p4] bp) p5) bz [] pm cv ct).globals
   (kla_fn "<lambda>" gL ⟨[],[⟨"_m",none,p⟩],none,[],[],none,[]⟩ (.BinOp (.Constant (.str (S [92])) k1 p1) .Add (.BoolOp .Or [.Call (.Attribute (.Name "_m" p2) "group" ap) [.Constant (.int 1) k2 p3] [] pos,.Constant (.str (S [])) k3 p4] bp) p5) bz [] pm cv ct).closure _ (some f) _ none _=aa
 have esc:aa.scope=bz:=by refine rB henv ?_;rfl
 have eloc:aa.locals=s.heap.objs.size:=by refine rB henv ?_;rfl
 refine⟨hlim.keeps hkeep,kla_codeExpr ?_⟩
 have hkl:aa.kindOf "_m"=some .local:=by unfold Env.kindOf;refine ab esc<|ab hnames ?_;rfl
 refine wpAny_BinOp (Calls.Constant_str (BoolOp_or ?_))
 refine wpAny_Call_method_late (trees:=backTo pos (starEach [.Constant (.int 1) k2 p3] aa)) rfl (by rfl) i7 rfl<|wpAny_Name (wpAny_loadName_local (by exact ab esc<|hkind) hkl (by exact ab eloc<|fA) (v:=.ref m) rfl ?_) (by decide+kernel)
 have hm1:=hm.keeps hkeep
 refine cR (id hm1) λL tp h1 h2=>li ("re.Match") ("re.Match.group") Br vH Bn ⟨_,h1,rfl⟩ (λb e=>by cases e;exact aJ _ h1 rfl) (Calls.callWith_builtin rfl (gi rfl (args_cons (wpAny_Constant_int (args_nil ?_)) rfl)))
 refine DK (x:=x) (tx:=tx) (q:=q) (k:=k) hm1 hk<|P.truthy_str (by rw[dq];simp)<|wpAny_with_toks (Nat.le_refl _) (PyProof.Rows.add_str (λt' tk ht=>?_) (by rw[dq,dq,sizeLine_eq];simp))
 refine h t' _ ⟨hkeep,cj,rfl,rfl,Nat.le_trans ?_ ht⟩
 refine(?_:s.toks<=s.toks+1+1+1+1+1+1)
 lia
end
structure ke(p:Addr)(s s':Shared):Prop where
 keep:∀a o,a≠p->s.heap.get? a=some o->s'.heap.get? a=some o
 sz:s.heap.objs.size<=s'.heap.objs.size
 os:s'.os=s.os
 gens:s'.gens=s.gens
 tk:s.toks<=s'.toks
theorem fI.but{p:Addr}{s s':Shared}(x:fI s s'):ke p s s':=⟨λa o _ e=>x.keep a o e,x.sz,x.os,x.gens,x.tk⟩
theorem ke.trans{p:Addr}{a b c:Shared}(x:ke p a b)(y:ke p b c):ke p a c:=⟨λq o h e=>y.keep q o h (x.keep q o h e),Nat.le_trans x.sz y.sz,y.os.trans x.os,y.gens.trans x.gens,Nat.le_trans x.tk y.tk⟩
noncomputable def bM(x:List Nat):List Nat:=x.flatMap λk=>if cy.isSp k then[92,k]else[k]
structure i9(h:Heap)(args:Arguments)(body:Expr)(bz:Scope)(f:Addr)(pm cv ct:Value):Prop where
 lam:nw args body bz=true
 pat:h.get? 43=some {cls:=.type "re.Pattern",data:=.fields #[.str "([&~|])" 292,.int 32 327,.int 1 0,.none,.none,.ref 42,.int 0 0]}
 code:h.get? 42=some {cls:=.type "tuple",data:=.seq (un.map λi=>Value.int i 0).toArray}
 fn:h.get? f=some {cls:=.type "function",data:=.func (kla_fn "<lambda>" gL args body bz [] pm cv ct)}
 cd:h.CodeRec cv gL
 lim:h.NoLimit
theorem i9.keeps{h h':Heap}{args:Arguments}{body:Expr}{bz:Scope}{f p:Addr}{pm cv ct:Value}(x:i9 h args body bz f pm cv ct)(hp:∃xs,PL h p xs)(k:∀a o,a≠p->h.get? a=some o->h'.get? a=some o):i9 h' args body bz f pm cv ct:=by
 refine cY hp λxs n e=>?_
 have hd:∀{o:Obj},h.get? p=some o->o.data=.seq xs n/\o.cls=.type "list":=λe2=>by replace e2:=e▸e2;exact aC e2<|⟨rfl,rfl⟩
 refine⟨x.lam,k _ _ (λq=>?_) x.pat,k _ _ (λq=>?_) x.code,k _ _ (λq=>?_) x.fn,?_,?_⟩
 ·have:=(hd (q▸x.pat)).1;cases this
 ·skip
  have t:(Value.type "tuple":Value)=.type "list":=((hd (q▸x.code)).2)
  injection t with t
  exact absurd t (of_decide_eq_true rfl)
 ·have:=(hd (q▸x.fn)).1;cases this
 ·exact jQ x.cd λa o vs t e1 e2 e3 e4=>rS a o vs t e1 (k a o (λq=>by have:=(hd (q▸e2)).1;replace this:=e3▸this;cases this) e2) e3 e4
 ·refine x.lim.at λo e'=>k _ o (λq=>?_) e'
  refine ah x.lim λmc bd _=>fz bd λo2 es ep ho r=>?_
  exact absurd (hd (q▸ho)).1 (by refine ab r.1 ?_;intro z;cases z)
section
variable {prog:Program} {w:World} {A:Around} {E:Value->Shared->Prop} {s:Shared} {x:List Nat} {tx:Tok} {f p:Addr} {args:Arguments} {body:Expr} {bz:Scope} {pm cv ct:Value}
open PySem.Builtin.Re in
theorem wR{Q:ReTarget->Shared->Prop}(X:i9 s.heap args body bz f pm cv ct)
  (h:Q {pattern:=.ref 43,string:=.str (S x) tx,code:=cy.C,text:=x.toArray,kind:=0,groups:=1,pos:=0,lim:=x.toArray.size} s):wpAny (model prog w) A (reWholeTarget (.ref 43) (.str (S x) tx)) Q E s:=by
 refine wpAny_bind (wpAny_fieldsOf X.pat rfl ?_)
 refine wpAny_bind (wpAny_of_eq (a:=(x.toArray,0)) (by rfl) ?_)
 refine KFB.if_not (by rfl)<|KFB.if_not (by rfl)<|wpAny_bind (wpAny_of_eq (a:=()) (by rfl) ?_)
 refine wpAny_bind (wpAny_bind (wpAny_seqItems X.code rfl (wpAny_pure ?_)))
 have e:Array.map (λx=>x.toNat) (Array.map reRawOf ((some (un.map λi=>Value.int i 0).toArray).getD #[]))=cy.C:=by decide+kernel
 exact ab e<|wpAny_pure h
end
end
section
theorem j9{M:Model}{A:Around}{E:Value->Shared->Prop}{s:Shared}{α:Type}{b:Prop}[Decidable b]{m n:Sem α}{Q:α->Shared->Prop}(hb:b)(h:wpAny M A m Q E s):wpAny M A (if b then m else n) Q E s:=by exact ab (if_pos hb) h
theorem sr(x y:List Nat):bM (x++y)=bM x++bM y:=List.flatMap_append ..
theorem yh(x:List Nat):(bM x).length<=2 * x.length:=by
 induction x with
 | nil=>exact Nat.zero_le _
 | cons z x ih=>
  have e:bM (z::x)=(if cy.isSp z then[92,z]else[z])++bM x:=rfl
  refine ab e<|ab List.length_append<|ab List.length_cons<|bq (λ_=>?_) λ_=>?_<;>simp only[List.length_cons,List.length_nil]<;>lia
theorem IZ{x:List Nat}(h:∀k∈x,cy.isSp k=false):bM x=x:=by
 induction x with
 | nil=>rfl
 | cons k x ih=>
  have e:bM (k::x)=(if cy.isSp k then[92,k]else[k])++bM x:=rfl
  refine ab e<|ab (h k (.head _))<|ab (ih λj hj=>h j (.tail _ hj)) ?_;rfl
theorem yc(x:List Nat)(i:Nat):x.toArray.getD i 0=x.getD i 0:=by simp
theorem Ij(x:List Nat):∀n d,x.length - d=n->(∃q,d<=q/\q < x.length/\cy.isSp (x.toArray.getD q 0)=true/\∀i,d<=i->i < q->cy.isSp (x.toArray.getD i 0)=false)∨(∀i,d<=i->i < x.length->cy.isSp (x.toArray.getD i 0)=false):=by
 intro n
 induction n with
 | zero=>intro d h;exact .inr λi h1 h2=>by lia
 | succ n ih=>
  intro d h
  cases e:cy.isSp (x.toArray.getD d 0)with
  | true=>exact .inl ⟨d,Nat.le_refl _,by lia,e,λi h1 h2=>by exact absurd ‹_› (Nat.not_lt.mpr ‹_›)⟩
  | false=>
   refine Or.elim (ih (d+1) (by lia)) (λob=>gC ob λq h1 h2 h3 h4=>?_) (λh1=>?_)
   ·refine .inl ⟨q,by exact Nat.le_of_lt ‹_›,h2,h3,λi a b=>?_⟩
    by_cases k:i=d
    ·exact ab k e
    ·exact h4 i (by lia) b
   ·refine .inr λi a b=>?_
    by_cases k:i=d
    ·exact ab k e
    ·exact h1 i (by lia) b
theorem Ec{x:List Nat}{d q:Nat}(hq:q<=x.length)(h:∀i,d<=i->i < q->cy.isSp (x.toArray.getD i 0)=false):∀k∈(x.drop d).take (q - d),cy.isSp k=false:=by
 intro k hk
 obtain⟨i,hi,rfl⟩:=List.mem_iff_getElem.mp hk
 have:=h (d+i) (Nat.le_add_right _ _) (by rw[List.length_take,List.length_drop]at hi;omega)
 rw[yc]at this
 refine ab List.getElem_take<|ab List.getElem_drop ?_
 rwa [List.getD_eq_getElem?_getD,List.getElem?_eq_getElem (by rw[List.length_take,List.length_drop]at hi;omega)]at this
theorem IX{x:List Nat}{d q:Nat}(hdq:d<=q)(hq:q<=x.length)(h:∀i,d<=i->i < q->cy.isSp (x.toArray.getD i 0)=false):bM (x.take q)=bM (x.take d)++(x.drop d).take (q - d):=by
 have e:x.take q=x.take d++(x.drop d).take (q - d):=by
  exact ab (show q=d+(q - d) by lia)<|ab List.take_add<|ab (show d+(q - d) - d=q - d by lia) rfl
 refine ab e ?_;rw[sr,IZ (Ec hq h)]
theorem wc(x:List Nat)(d q:Nat):(⟨x.toArray.extract d q⟩:Str)=S ((x.drop d).take (q - d)):=by
 have:x.toArray.extract d q=((x.drop d).take (q - d)).toArray:=by
  apply Array.ext'
  exact ab Array.toList_extract rfl
 exact congrArg Str.mk this
section
variable {prog:Program} {w:World} {A:Around} {E:Value->Shared->Prop} {s:Shared} {x:List Nat} {tx:Tok} {f p:Addr} {args:Arguments} {body:Expr} {bz:Scope} {pm cv ct:Value}
theorem Bf(l:List (Str×Tok))(y:Str)(t:Tok):(strValues (l++[(y,t)])).toArray=(strValues l).toArray.push (.str y t):=by simp[strValues]
theorem yv{l:List (Str×Tok)}{y:Str}{t:Tok}{Q:Unit->Shared->Prop}(hl:PL s.heap p (strValues l).toArray)(hz:l.length<=100000)
  (h:∀s',ke p s s'->PL s'.heap p (strValues (l++[(y,t)])).toArray->Q () s'):wpAny (model prog w) A (updateSeq p (·.push (.str y t))) Q E s:=by
 refine aW hl λn e=>?_
 have hs:(strValues l).toArray.size<=100000:=by simpa[strValues]using hz
 have hx:sizeLine=_:=sizeLine_eq
 refine wpAny_updateSeq e rfl (h _ ⟨λa o ha ho=>?_,?_,rfl,rfl,Nat.le_refl _⟩ ?_) (Nat.le_trans ‹_› (Nat.le_of_ble_eq_true rfl)) (by rw[Array.size_push];exact Nat.lt_of_le_of_lt ‹_› (Nat.le_of_ble_eq_true rfl))
 ·skip
  exact((Heap.SameBut.update s.heap p (Obj.mapSeq (·.push (.str y t)))).2 a ha).trans ho
 ·exact Nat.le_of_eq ((Heap.SameBut.update s.heap p (Obj.mapSeq (·.push (.str y t)))).1).symm
 ·rw[Bf]
  exact⟨_,Heap.get?_update_self _ e rfl⟩
theorem tZ(s:Shared)(k:Nat)(h:s.toks<=k):ke p s {s with toks:=k}:=⟨λ_ _ _ e=>e,Nat.le_refl _,rfl,rfl,h⟩
open PySem.Builtin.Re in
theorem EC{q:Nat}{sn:Sre.Seen}{T:Array Nat}{L:Nat}{Q:Value->Shared->Prop}(h:∀m s',fI s s'->nb s'.heap m x tx q->Q (.ref m) s'):
  wpAny (model prog w) A (reNewMatch (.ref 43) (.str (S x) tx) 1 0 L (cy.m9 T L q sn)) Q E s:=by
 have e:reNewMatch (.ref 43) (.str (S x) tx) 1 0 L (cy.m9 T L q sn)=(do
   if((decide ((1:Int)<=1)&&decide (q+1 < q))||false)=true then reWrongSpan
   let a <- newTuple [rawInt (q:Int),rawInt ((q+1:Nat):Int),rawInt (q:Int),rawInt ((q+1:Nat):Int)]
   newFields "re.Match" [.str (S x) tx,.ref 43,rawInt 0,rawInt L,rawInt 1,a]):=rfl
 refine ab e<|KFB.if_not (by refine ab (decide_eq_false (p:=q+1 < q) (by lia)) ?_;rfl) ?_
 refine wpAny_bind (wpAny_newTuple ?_ (by refine(?_:4<=sizeLine);decide))
 refine wpAny_newObj_type ?_ ?_
 ·refine h _ _ ⟨λa o e=>Heap.get?_push_of_some _ (Heap.get?_push_of_some _ e),?_,rfl,rfl,Nat.le_refl _⟩ ⟨L,s.heap.objs.size,Heap.get?_push_size _ rfl,Heap.get?_push_of_some _ (Heap.get?_push_size _ rfl)⟩
  rw[Heap.size_push,Heap.size_push];lia
 ·size_fits
open PySem.Builtin.Re in
theorem yP{α:Type}{K:Sem α}{l:List (Str×Tok)}{d q:Nat}{Q:α->Shared->Prop}(hl:PL s.heap p (strValues l).toArray)(hz:l.length<=10000)(hx:x.length<=1000)(hdq:d<=q)(hq:q<=x.length)
  (hn:∀i,d<=i->i < q->cy.isSp (x.toArray.getD i 0)=false)
  (h:∀s' l' (ys:List (List Nat)),ke p s s'->PL s'.heap p (strValues l').toArray->l'.map (·.1)=l.map (·.1)++ys.map S->bM (x.take q)=bM (x.take d)++ys.flatten->ys.length<=1->(d=q->ys=[])->wpAny (model prog w) A K Q E s'):
  wpAny (model prog w) A (if d < q then(do
   let a <- reSlice x.toArray 0 d q
   updateSeq p (λxs=>xs.push a)
   K)else K) Q E s:=by
 by_cases c:d < q
 ·rw[if_pos c]
  show wpAny _ _ ((if(0==0)=true then mkStr ⟨x.toArray.extract d q⟩else _) >>= _) _ _ s
  refine ab (if_pos (by rfl)) ?_;rw[wc]
  refine wpAny_bind (wpAny_mkStr (wpAny_bind (yv (s:={s with toks:=s.toks+1}) hl (Nat.le_trans ‹_› (Nat.le_add_left _ _)) λs' g hp=>?_)) ?_)
  ·exact h s' _ [(x.drop d).take (q - d)] ((tZ s (s.toks+1) (Nat.le_succ _)).trans g) hp (by simp) (by simpa using IX hdq hq hn) (Nat.le_refl _) (λe=>absurd e (Nat.ne_of_lt ‹_›))
  ·rw[dq,List.length_take,sizeLine_eq];lia
 ·refine ab (if_neg c) ?_
  have:d=q:=by exact Nat.le_antisymm ‹_› (Nat.not_lt.mp ‹_›)
  subst this
  exact h s l [] ⟨λ_ _ _ e=>e,Nat.le_refl _,rfl,rfl,Nat.le_refl _⟩ hl (by simp) (by simp) (Nat.zero_le _) (λ_=>rfl)
open PySem.Builtin.Re in
theorem Fy(hx:x.length<=1000)(hd:A.depth<=890):∀n d,d<=x.length->x.length - d=n->∀(s:Shared) (l:List (Str×Tok)) (xs:List (List Nat)) (j:Int) (must:Bool) (Q:Value->Shared->Prop),i9 s.heap args body bz f pm cv ct->PL s.heap p (strValues l).toArray->l.map (·.1)=xs.map S->xs.flatten=bM (x.take d)->xs.length<=2 * d->
  (∀t s',ke p s s'->Q (.str (S (bM x)) t) s')->
  codeAny (model prog w) A (.builtin "re.Pattern.sub.loop" ⟨[.ref 43,.str (S x) tx,.ref f,rawInt 1,rawInt 0,rawInt j,rawInt d,rawInt d,.bool must,.ref p,.bool false],[]⟩) (λr s'=>match r with | .ok (.ret v)=>Q v s' | .ok _=>False | .error e=>E e s') s:=by
 intro n
 induction n using Nat.strongRecOn with
 | ind n ih=>
 intro d hdx hn s l xs j must Q X hp hl hf aV k
 have hll:l.length=xs.length:=by have:=congrArg List.length hl;simpa using this
 refine codeAny_builtin DA ?_
 rw[Around.under_plainId sD]
 dsimp only[rawInt]
 refine wpAny_bind (wR X ?_)
 refine KFB.if_not (by rfl) ?_
 dsimp only
 refine wpAny_bind (KFB.if_not (by rfl) ?_)
 unfold reNextFound
 dsimp only
 refine ab (show Int.toNat (d:Int)=d from rfl)<|Or.elim (Ij x n d hn) (λob=>gC ob λq h1 h2 h3 h4=>?_) (λh1=>?_)
 ·refine cy.run_some h1 (by exact h2) h3 h4 λsn=>yP hp (by lia) hx h1 (Nat.le_of_lt h2) h4 λs1 l1 ys g1 gc eN he1 hy1 _=>KFB.if_not (by rfl) ?_
  have X1:=X.keeps ⟨_,hp⟩ g1.keep
  refine wpAny_bind (EC λm s2 g2 hm=>?_)
  have X2:=X1.keeps ⟨_,gc⟩ λa o _ e=>g2.keep a o e
  have eW:PL s2.heap p (strValues l1).toArray:=aW gc λn e=>⟨n,g2.keep _ _ e⟩
  refine wpAny_bind (wpAny_holding ?_)
  refine j9 (by rfl) ?_
  obtain⟨k1,hk1⟩:∃k1,x[q]? =some k1:=⟨_,List.getElem?_eq_getElem h2⟩
  refine CN X2.lam X2.fn X2.cd X2.lim (by show A.depth<=900;exact Nat.le_trans ‹_› (Nat.le_add_left _ _)) hm hk1 λt s3 g3=>?_
  have X3:=X2.keeps ⟨_,eW⟩ λa o _ e=>g3.keep a o e
  have hp3:PL s3.heap p (strValues l1).toArray:=aW eW λn e=>⟨n,g3.keep _ _ e⟩
  refine j9 (by rfl) ?_
  have hle:l1.length=xs.length+ys.length:=by
   have:=congrArg List.length eN
   rw[hl]at this
   simpa using this
  refine wpAny_bind (yv hp3 (by lia) λs4 g4 hp4=>?_)
  have X4:=X3.keeps ⟨_,hp3⟩ g4.keep
  refine wpAny_pure ⟨plainId_quiet sD _,?_⟩
  have hk1':x.getD q 0=k1:=by refine ab List.getD_eq_getElem?_getD<|ab hk1 ?_;rfl
  have iq:cy.isSp k1=true:=by rw[<- hk1',<- yc];exact h3
  have eC:x.take (q+1)=x.take q++[k1]:=by refine ab List.take_add_one<|ab hk1 ?_;rfl
  refine ih (x.length - (q+1)) (by lia) (q+1) (Nat.succ_le_of_lt ‹_›) rfl s4 (l1++[(S [92,k1],t)]) (xs++ys++[[92,k1]]) (j+1) ((cy.m9 x.toArray x.toArray.size q sn).handed==(cy.m9 x.toArray x.toArray.size q sn).start) Q X4 hp4 ?_ ?_ ?_ λt' s' g'=>k t' s' (((((g1.trans g2.but).trans g3.but)).trans g4).trans g')
  ·simp[eN,hl]
  ·have e5:bM [k1]=[92,k1]:=by
    show(if cy.isSp k1 then[92,k1]else[k1])++[]=_
    refine ab iq ?_;rfl
   have he1':bM (x.take q)=bM (x.take d)++ys.flatten:=he1
   rw[eC,sr,he1',e5,<- hf];simp
  ·simp only[List.length_append,List.length_cons,List.length_nil];lia
 ·refine cy.run_none (λi a b=>h1 i a (by exact b)) ?_
  have cj:x.toArray.size=x.length:=by rfl
  refine yP (q:=x.toArray.size) hp (by lia) hx (by lia) (Nat.le_refl _) (λi a b=>h1 i a ‹_›) λs1 l1 ys g1 gc eN he1 hy1 hy2=>?_
  have hl1':l1.map (·.1)=(xs++ys).map S:=by rw[eN,hl,List.map_append]
  have hfl:(xs++ys).flatten=bM x:=by
   rw[List.flatten_append,hf,<- he1,cj,List.take_length]
  refine wpAny_bind ?_
  show wpAny _ _ (mkStr ⟨x.toArray.extract 0 0⟩) _ _ s1
  rw[wc]
  refine wpAny_mkStr ?_ (by rw[dq,sizeLine_eq];simp)
  refine aW (id gc) λnn ee=>wpAny_bind (wpAny_seqItems ee rfl ?_)
  have hle:l1.length=xs.length+ys.length:=by
   have:=congrArg List.length hl1'
   simpa using this
  cases hem:l1 with
  | nil=>
   subst hem
   have:xs++ys=[]:=by simpa using hl1'.symm
   rw[this]at hfl
   refine j9 (by rfl) (wpAny_bind (wpAny_pure (KFB.if_not (by rfl) (wpAny_pure ?_))))
   show Q (.str (S _) _) _
   have e0:(x.drop 0).take (0 - 0)=[]:=by rfl
   rw[e0,show([]:List Nat)=bM x from hfl]
   exact k _ _ (g1.trans (tZ s1 (s1.toks+1) (Nat.le_succ _)))
  | cons y0 l0=>
   rw[<- hem]
   refine KFB.if_not (by rw[hem];rfl) (wpAny_bind ?_)
   have hsum:(((xs++ys).map (·.length)).sum)=(bM x).length:=by rw[<- hfl,List.length_flatten]
   have hlen2:=yh x
   have e0:(x.drop 0).take (0 - 0)=[]:=by rfl
   refine wpAny_with_toks (Nat.le_refl _) (SC.join (s:={s1 with toks:=s1.toks+1}) gc.isList hl1' (t8 (by rw[hsum];simp;lia)) λt' k' ht=>?_)
   refine KFB.if_not (by rfl) (wpAny_pure ?_)
   show Q (.str (Txt.join (S []) ((xs++ys).map S)) t') _
   rw[wF]
   have hj:∀zs:List (List Nat),bT [] zs=zs.flatten:=by
    intro zs
    induction zs with
    | nil=>rfl
    | cons a r ih2=>cases r with
     | nil=>simp[bT]
     | cons b r=>rw[bT,ih2];simp
   rw[hj,hfl]
   exact k _ _ (g1.trans (tZ s1 k' (Nat.le_trans (Nat.le_succ _) ht)))
end
end
section
section
variable {prog:Program} {w:World} {A:Around} {E:Value->Shared->Prop} {s:Shared} {x:List Nat} {tx:Tok} {f p:Addr} {args:Arguments} {body:Expr} {bz:Scope} {pm cv ct:Value}
theorem BI{T:String}{name:Str}{id:String}{b:Builtin}{self:Value}{ao:List Value}{Q:Value->Shared->Prop}(h:Slot T name id)(hT:s.TypeIs self T)
  (hb:entryFor table id=some b)
  (hc:wpAny (model prog w) A.in1 (b ⟨self::ao,[]⟩) (λfin s'=>match fin with
   | .done f=>(match(Except.ok f:Result)with | .ok (.ret v)=>Q v s' | .ok _=>False | .error e=>E e s')
   | .again c'=>c'.quiet=true/\codeAny (model prog w) A c' (λr s'=>match r with | .ok (.ret v)=>Q v s' | .ok _=>False | .error e=>E e s') s') E s)
  (ha:argsOk id ⟨self::ao,[]⟩:=by rfl):
  wpAny (model prog w) A (call (.builtin id) (self::ao)) Q E s:=
 wpAny_call (codeAny_call_builtin h.plain hb (h.check _ _ _ _ _ _ _ _ hT ha hc))
theorem i9.all{h h':Heap}(x:i9 h args body bz f pm cv ct)(k:∀a o,h.get? a=some o->h'.get? a=some o):i9 h' args body bz f pm cv ct:=
 ⟨x.lam,k _ _ x.pat,k _ _ x.code,k _ _ x.fn,jQ x.cd λa o vs t e1 e2 e3 e4=>⟨a,o,vs,t,e1,k _ _ e2,e3,e4⟩,x.lim.keeps k⟩
open PySem.Builtin.Re in
theorem G2{Q:Value->Shared->Prop}(hx:x.length<=1000)(hd:A.depth<=890)(X:i9 s.heap args body bz f pm cv ct)
  (h:∀t s',fI s s'->Q (.str (S (bM x)) t) s'):wpAny (model prog w) A (call (.builtin "re.Pattern.sub") [.ref 43,.ref f,.str (S x) tx]) Q E s:=by
 refine BI v4 ⟨_,X.pat,rfl⟩ Cc ?_ (CT _ _ _)
 unfold Builtin.«re.Pattern.sub» reSubstitute
 refine wpAny_bind (wpAny_of_eq (a:=[some (.ref f),some (.str (S x) tx),none]) (by kernel_rfl) ?_)
 refine wpAny_bind (wpAny_pure ?_)
 refine wpAny_bind<|wpAny_bind (wpAny_typeOf ⟨_,X.fn,rfl⟩ (wpAny_of_eq GJ ?_))
 refine j9 (by rfl) (wpAny_bind (wpAny_pure (j9 (by rfl) (wpAny_bind (wpAny_pure ?_)))))
 refine wpAny_bind (wpAny_holding (wR X ?_))
 refine j9 (by rfl) (wpAny_bind (wpAny_of_eq (a:=()) (by kernel_rfl) ?_))
 refine wpAny_bind (wpAny_newList ?_ (Nat.zero_le _))
 refine wpAny_pure ⟨plainId_quiet sD _,?_⟩
 have k0:∀a o,s.heap.get? a=some o->(s.heap.push {cls:=.type "list",data:=.seq ([]:List Value).toArray}).get? a=some o:=λa o e=>Heap.get?_push_of_some _ e
 have hp:PL (s.heap.push {cls:=.type "list",data:=.seq ([]:List Value).toArray}) s.heap.objs.size (strValues []).toArray:=⟨0,Heap.get?_push_size _ rfl⟩
 have X1:i9 (s.heap.push {cls:=.type "list",data:=.seq ([]:List Value).toArray}) args body bz f pm cv ct:=X.all k0
 ·refine Fy hx hd x.length 0 (Nat.zero_le _) rfl {s with heap:=s.heap.push {cls:=.type "list",data:=.seq ([]:List Value).toArray}} [] [] 0 false Q X1 hp rfl rfl (Nat.le_refl _) λt s' g=>h t s' ⟨λa o e=>g.keep a o (Nat.ne_of_lt (Heap.lt_size e)) (k0 a o e),Nat.le_trans ?_ g.sz,g.os,g.gens,g.tk⟩
  rw[Heap.size_push];exact Nat.le_succ _
end
section
variable {c:Cx} {n:Nat} {aa:Env} {Z:Ctx}
theorem GU{args:Arguments}{body:Expr}{bz:Scope}{f5 p ap pos:Pos}{a:Expr}{x:List Nat}(hn:1<=n)(iD:aa.code=.ref 68)(hqual:aa.qual="_translate.<locals>.")(hl:nw args body bz=true)
  (gc:f5.line=lM.line) (eW:f5.col=lM.col) (hk:aa.kindOf "_twin_re_1"=some .globalImplicit) (h1:Ev c n aa Z a (.d (sd x))) (hx:x.length<=1000) (hs:bP a=false) (i7:(ap.endLine==pos.line)=true):
  Ev c n aa Z (.Call (.Attribute (.Name "_twin_re_1" p) "sub" ap) [.Lambda args body bz f5,a] [] pos) (.d (sd (bM x))):=by
 refine⟨?_⟩
 intro A s Q E ow rm I k
 have fA:kT [.Lambda args body bz f5,a]:=λe he=>by
  rcases List.mem_cons.mp he with rfl | he
  ·rfl
  ·rcases List.mem_cons.mp he with rfl | he
   ·exact hs
   ·cases he
 refine wpAny_Call_method_late (trees:=backTo pos (starEach [.Lambda args body bz f5,a] aa)) rfl (oY fA (by rfl)) i7 rfl<|iU I (ej (x:="_twin_re_1") (v:=.ref 43) (by decide+kernel)) hk (by decide+kernel) ?_
 have hpat:=I.bs.sta.k 43 _ (by rfl)
 refine li ("re.Pattern") ("re.Pattern.sub") Bq v4 Ck ⟨_,hpat,rfl⟩ (λb e=>by cases e;exact aJ _ hpat rfl) (Calls.callWith_builtin (jq fA) (gi (jq fA) ?_))
 refine args_cons (DQ I iD hqual hl gc eW λf s1 pm cv ct al gF hf hcr=>args_cons (h1.run A s1 _ E ow rm (I.step al) λv s2 rv aG=>args_nil ?_) (eD hs)) (eD rfl)
 refine ag.bw rv λt=>?_
 have I1:=I.step al
 have I2:=I1.step aG
 have hV:¬c.V f:=λhv=>by
  exact absurd (I.ok.jin _ _ I.bs.j (I.ok.vd _ hv)) (Nat.not_lt.mpr gF)
 refine jQ hcr λac oc vc tc e1 e2 e3 e4=>?_
 have hd:=rm.d
 exact G2 hx (by lia) (⟨hl,I2.bs.sta.k 43 _ (by rfl),I2.bs.sta.k 42 _ (by rfl),aG.kp.2 _ _ hV hf,⟨ac,oc,vc,tc,e1,aG.kp.2 _ _ (λhv=>I.ok.vco _ _ _ I1.bs.j hv e2 ⟨vc,_,tc,e3,e4⟩) e2,e3,e4⟩,I2.bs.sta.nolimit⟩:i9 s2.heap args body bz f pm cv ct) λt' s3 g=>k _ _ (.str _ _) ((al.trans aG).trans (g.step I.ok))
end
end
section
noncomputable def uq(C:Addr)(fp wr:List Addr)(cW:Nat)(F:Nat->Value->Prop):Protocol:=λm dd v s kap=>
 F (cW - 1 - m) v/\GenSince C wr dd s/\∀cQ:Shared,0 < cQ.toks->(∀b∈C::fp,∀o,s.heap.get? b=some o->cQ.heap.get? b=some o)->kap (.send .none) cQ
section
variable {prog:Program} {w:World} {A:Around}
noncomputable def ve(prog:Program)(w:World)(cenv:Env)(x:Str)(elt:Expr)(P:Nat->Value->Prop)(F:Nat->Value->Prop):Prop:=
 ∀(A':Around) E' i v (ey:Shared) m₂,A'.handled=none->P i v->0 < ey.toks->ey.heap.Ns cenv.locals m₂->m₂ x=some v->
  wpAny (model prog w) A' (eval elt cenv) (λy fX=>F i y/\Keeps ey fX) E' ey
theorem Ed{elt iter:Expr}{x:Str}{px:Pos}{scope:Scope}{pos:Pos}{I:Addr}{fp wr:List Addr}{cW:Nat}{P:Nat->Value->Prop}{St₀:Nat->Heap->Prop}{cenv:Env}
  (hh:A.handled=none) (gT:∀A':Around,A'.handled=none->Walks prog w A' I fp wr cW P St₀) (F:Nat->Value->Prop)
  (hx:cenv.kindOf x=some .local) (hp:(cenv.scope.kind==.class||(cenv.scope.kind==.module&&cenv.locals !=cenv.globals))=false)
  (fb:cenv.scope.isCoroutine=false) (hCf:cenv.locals∉fp) (hq:ve prog w cenv x elt P F):
  ∀(k i:Nat) (dd s:Shared) (m:Str->Option Value),cW - i=k->i<=cW->0 < s.toks->St₀ i s.heap->s.heap.Ns cenv.locals m->GenSince cenv.locals wr dd s->
   Seg (model prog w) A (λn dd r aD=>r=.ok .next/\(n=0/\GenSince cenv.locals wr dd aD)) (uq cenv.locals fp wr cW F) k dd
    (.compLoop (.GeneratorExp elt [⟨.Name x px,iter,[],0⟩] scope pos) 0 (.ref I) .none cenv)
    ((model prog w).den (.compLoop (.GeneratorExp elt [⟨.Name x px,iter,[],0⟩] scope pos) 0 (.ref I) .none cenv)) [] s:=by
 have hh':(A.over (.compLoop (.GeneratorExp elt [⟨.Name x px,iter,[],0⟩] scope pos) 0 (.ref I) .none cenv) []).handled=none:=hh
 intro k
 induction k with
 | zero=>
  intro i dd s m hk hi ht dj hn hsince
  have du:i=cW:=by omega
  subst du
  refine(?_:Seg _ A _ _ _ dd _ ((compTurn (.GeneratorExp elt [⟨.Name x px,iter,[],0⟩] scope pos) 0 (.ref I) .none cenv).onRaise (leaving cenv)) [] s)
  rw[compTurn_gen,Sem.onRaise_eq_wrap]
  refine seg_bind_wrap (wpAny_standAt ?_)
  refine seg_bind_wrap ((gT _ hh').done s _ _ dj λh' tk hk'=>?_)
  exact seg_end (.ok .next) ⟨rfl,rfl,hsince.step λb o _ hw e=>hk' b o hw e⟩
 | succ k ih=>
  intro i dd s m hk hi ht dj hn hsince
  have bl:i < cW:=by omega
  refine(?_:Seg _ A _ _ _ dd _ ((compTurn (.GeneratorExp elt [⟨.Name x px,iter,[],0⟩] scope pos) 0 (.ref I) .none cenv).onRaise (leaving cenv)) [] s)
  rw[compTurn_gen,Sem.onRaise_eq_wrap]
  refine seg_bind_wrap (wpAny_standAt ?_)
  refine seg_bind_wrap (wpAny_with_toks (Nat.le_refl s.toks) ((gT _ hh').item i s _ _ bl dj λv gw tk₁ hPv hst₁ hk₁ ht₁=>?_))
  refine seg_bind_wrap (wpAny_of_eq (rfl:letOwnedTupleGo (.Name x px) (.ref I) v=pure ()) ?_)
  refine seg_bind_wrap (wpAny_assign_Name (wpAny_storeName_local hx (hn.at' λo e=>hk₁ _ o (λh=>hCf ((gT A hh).sub _ h):cenv.locals∉wr) e) (λh₂ hn₂ hs₂=>?_) hp))
  have up₂:∀b o,b≠cenv.locals->b∉wr->s.heap.get? b=some o->h₂.get? b=some o:=λb o hbC hbw e=>hs₂.extBut b o hbC (hk₁ b o hbw e)
  refine seg_bind_wrap (wpAny_pure ?_)
  have hsince₃:GenSince cenv.locals wr dd {s with heap:=h₂,toks:=tk₁}:=hsince.step λb o hbC hbw e=>up₂ b o hbC hbw e
  simp only[if_true]
  have hy:∀v,yieldOut cenv v=yieldValue v:=λv=>by simp only[yieldOut,fb,Bool.false_eq_true,if_false]
  simp only[hy]
  rw[Sem.bind_eq_wrap',Sem.bind_eq_wrap',Sem.wrap_wrap,Sem.wrap_wrap]
  refine seg_wrap (wpAny_mono (hq _ _ i v _ _ hh' hPv (by first | exact Nat.lt_of_lt_of_le ht this | (refine(?_:0 < tk₁+1);exact Nat.succ_pos _)) hn₂ (by simp)) (λy s₄ h₄=>?_) λ_ _ e=>e)
  obtain⟨hFy,h₄,tk₄,rfl,hk₄⟩:=h₄
  refine seg_at (seg_yield rfl rfl rfl ⟨by exact ab (show cW - 1 - k=i by omega)<|hFy,hsince₃.step λb o _ _ e=>hk₄ b o e,λcQ ht'' hal=>?_⟩)
  exact seg_again rfl (ih (i+1) cQ cQ _ (by omega) bl ht'' ((gT A hh).frame _ _ _ ((gT A hh).frame _ _ _ hst₁ λb hb o e=>hs₂.extBut b o (λh=>hCf (h▸hb)) e:St₀ (i+1) h₂) λb hb o e=>hal b (List.mem_cons_of_mem _ hb) o (hk₄ b o e))
   ((hn₂.keeps hk₄).at' λo e=>hal _ (List.mem_cons_self ..) o e) (GenSince.refl _ _ _))
theorem C8{elt iter:Expr}{x:Str}{px:Pos}{scope:Scope}{pos:Pos}{I:Addr}{fp wr:List Addr}{cW:Nat}{P:Nat->Value->Prop}{St₀:Nat->Heap->Prop}{cenv:Env}
  (hh:A.handled=none) (gT:∀A':Around,A'.handled=none->Walks prog w A' I fp wr cW P St₀) (F:Nat->Value->Prop)
  (hx:cenv.kindOf x=some .local) (hp:(cenv.scope.kind==.class||(cenv.scope.kind==.module&&cenv.locals !=cenv.globals))=false)
  (fb:cenv.scope.isCoroutine=false) (hCf:cenv.locals∉fp) (hq:ve prog w cenv x elt P F)
  (dd s:Shared) (m:Str->Option Value) (ht:0 < s.toks) (dj:St₀ 0 s.heap) (hn:s.heap.Ns cenv.locals m) (hsince:GenSince cenv.locals wr dd s):
  Seg (model prog w) A (λn dd r aD=>r=.ok .next/\(n=0/\GenSince cenv.locals wr dd aD)) (uq cenv.locals fp wr cW F) cW dd
   (.compStart (.GeneratorExp elt [⟨.Name x px,iter,[],0⟩] scope pos) 0 (.ref I) .none cenv)
   ((model prog w).den (.compStart (.GeneratorExp elt [⟨.Name x px,iter,[],0⟩] scope pos) 0 (.ref I) .none cenv)) [] s:=by
 have hh':(A.over (.compStart (.GeneratorExp elt [⟨.Name x px,iter,[],0⟩] scope pos) 0 (.ref I) .none cenv) []).handled=none:=hh
 have loop:=Ed (iter:=iter) (px:=px) (scope:=scope) (pos:=pos) hh gT F hx hp fb hCf hq cW 0 dd s m (Nat.sub_zero _) (Nat.zero_le _) ht dj hn hsince
 refine(?_:Seg _ A _ _ _ dd _ ((compStart (.GeneratorExp elt [⟨.Name x px,iter,[],0⟩] scope pos) 0 (.ref I) .none cenv).onRaise (leaving cenv)) [] s)
 rw[Sem.onRaise_eq_wrap]
 refine seg_bind_wrap (wpAny_askSetting ?_)
 refine bq (λ_=>?_) λ_=>?_
 ·exact seg_again rfl loop
 ·first
   | exact seg_bind_wrap (wpAny_rule (seg_bind_wrap (wpAny_standAt (seg_bind_wrap ((gT _ hh').self 0 s _ _ dj (seg_again rfl loop))))))
   | (refine seg_bind_wrap (wpAny_rule ?_);show Seg _ A _ _ _ dd _ ((standAt iter.pos >>= _).wrap _ _ _ _) [] s;exact seg_bind_wrap (wpAny_standAt (seg_bind_wrap ((gT _ hh').self 0 s _ _ dj (seg_again rfl loop)))))
noncomputable def pq(prog:Program)(w:World)(A:Around)(a:Addr)(g:Nat)(C:Addr)(fp wr:List Addr)(cW:Nat)(F:Nat->Value->Prop)(j:Nat)(s:Shared):Prop:=
 s.heap.IsGen a g/\s.heap.NoLimit/\0 < s.toks/\∃gs,s.gens[g]? =some gs/\∀cQ:Shared,0 < cQ.toks->(∀b∈C::fp,∀o,s.heap.get? b=some o->cQ.heap.get? b=some o)->
  gs.Goes (model prog w) A.in1 (λn dd r aD=>r=.ok .next/\(n=0/\GenSince C wr dd aD)) (uq C fp wr cW F) (cW - j) (.send .none) cQ
theorem Jy(hh:A.handled=none)(a:Addr)(g:Nat)(C:Addr)(fp wr:List Addr)(cW:Nat)(F:Nat->Value->Prop)(haC:a≠C)(haf:a∉fp)(hsub:∀b∈wr,b∈fp)
  (hroom:A.depth < recursionLimit) (jo:cStatics∈fp) (hcC:cStatics≠C) (hcw:cStatics∉wr):
  WalksS prog w A a (a::C::fp) (C::wr) (GenOnlyQ g) cW F (pq prog w A a g C fp wr cW F) where
 sub:=λb hb=>by
  rcases List.mem_cons.mp hb with rfl | hb
  ·simp
  ·exact List.mem_cons_of_mem _ (List.mem_cons_of_mem _ (hsub b hb))
 grefl:=λ_=>.inl rfl
 gtrans:=λ_ _ _ x y=>x.trans y
 frame:=λj s h' tk st ht hk=>
  ⟨let⟨o,nm,qn,ho,r⟩:=st.1;⟨o,nm,qn,hk a (List.mem_cons_self ..) o ho,r⟩,
   (let⟨mc,fA,hnn⟩:=st.2.1;⟨mc,fA.at' λo e=>hk cStatics (List.mem_cons_of_mem _ (List.mem_cons_of_mem _ jo)) o e,hnn⟩),Nat.lt_of_lt_of_le st.2.2.1 ht,
   ah st.2.2.2 λgs hgs iv=>⟨gs,hgs,λcQ h0 hal=>iv cQ h0 λb hb o e=>hal b hb o (hk b (List.mem_cons_of_mem _ hb) o e)⟩⟩
 item:=λj s Q E hj st hQ=>by
  refine jh st λhg hl h0 ar=>?_;obtain⟨gs,hgs,iv⟩:=ar
  obtain⟨m,hm⟩:∃m,cW - j=m+1:=⟨cW - j - 1,by lia⟩
  rw[hm]at iv
  refine wpAny_with_toks (Nat.le_refl s.toks)<|wpAny_pyNext_genexpQ (P:=λn dd aD=>n=0/\GenSince C wr dd aD) hh hl hroom hg hgs (iv _ h0 λ_ _ _ e=>e) (λv aD gs' hb hv=>?_) (λaD hp h' hk=>?_)
  ·refine bB hv λhF bd hkap=>cR bd λgw tk₁ am hk₁=>?_;subst am
   rw[(by lia:cW - 1 - (m+1 - 1)=j)]at hF
   intro eC
   refine hQ v _ hF ⟨let⟨o,nm,qn,ho,r⟩:=hg;⟨o,nm,qn,hk₁ a o haC (λh=>haf (hsub a h):a∉wr) ho,r⟩,(let⟨mc,fA,hnn⟩:=hl;⟨mc,fA.at' λo e=>hk₁ cStatics o hcC hcw e,hnn⟩),Nat.lt_of_lt_of_le h0 eC,gs',setGen_self (gs:=.running) (setGen_self hgs),λcQ h0' hal=>?_⟩
    ⟨λb o hb e=>hk₁ b o (λh=>hb (h▸List.mem_cons_self ..)) (λh=>hb (List.mem_cons_of_mem _ h)) e,GenOnlyQ.of ((GenOnly.setGen s g .running).trans (GenOnly.setGen _ g gs')) (setGen_self (gs:=.running) (setGen_self hgs)) hb,rfl,rfl,eC⟩
   have e:cW - (j+1)=m:=by lia
   exact ab e<|hkap cQ h0' hal
  ·exact absurd hp.1 (Nat.succ_ne_zero m)
 done:=λs Q E st hQ=>by
  refine jh st λhg hl h0 ar=>ah ar λgs hgs iv=>?_
  rw[Nat.sub_self]at iv
  refine wpAny_with_toks (Nat.le_refl s.toks)<|wpAny_pyNext_genexpQ (P:=λn dd aD=>n=0/\GenSince C wr dd aD) hh hl hroom hg hgs (iv _ h0 λ_ _ _ e=>e) (λv aD gs' hb hv=>?_) (λaD hp h' hk=>?_)
  ·exact bB hv λ_ _ hkap=>False.elim (hkap {aD with toks:=1} Nat.one_pos λ_ _ _ e=>e)
  ·obtain⟨_,gw,tk₁,rfl,hk₁⟩:=hp
   intro eC
   exact hQ _ ⟨λb o hb e=>hk b o (hk₁ b o (λh=>hb (h▸List.mem_cons_self ..)) (λh=>hb (List.mem_cons_of_mem _ h)) e),GenOnlyQ.of ((GenOnly.setGen s g .running).trans (GenOnly.setGen _ g .finished)) (setGen_self (gs:=.running) (setGen_self hgs)) rfl,rfl,rfl,eC⟩
 self:=λ_ _ _ _ st hQ=>wpAny_pyIter_gen st.1 hQ
theorem pq.fresh{elt iter:Expr}{x:Str}{px:Pos}{scope:Scope}{pos:Pos}{I a:Addr}{g:Nat}{fp wr:List Addr}{cW:Nat}{P:Nat->Value->Prop}{St₀:Nat->Heap->Prop}{cenv:Env}
  (hh:A.handled=none) (gT:∀A':Around,A'.handled=none->Walks prog w A' I fp wr cW P St₀) (F:Nat->Value->Prop)
  (hx:cenv.kindOf x=some .local) (hp:(cenv.scope.kind==.class||(cenv.scope.kind==.module&&cenv.locals !=cenv.globals))=false)
  (fb:cenv.scope.isCoroutine=false) (hCf:cenv.locals∉fp) {s:Shared} {m:Str->Option Value} (hq:ve prog w cenv x elt P F)
  (hg:s.heap.IsGen a g) (hgs:s.gens[g]? =some (.fresh (.compStart (.GeneratorExp elt [⟨.Name x px,iter,[],0⟩] scope pos) 0 (.ref I) .none cenv)))
  (ht:0 < s.toks) (dj:St₀ 0 s.heap) (hn:s.heap.Ns cenv.locals m) (hl:s.heap.NoLimit):pq prog w A a g cenv.locals fp wr cW F 0 s:=
 ⟨hg,hl,ht,_,hgs,λcQ h0 hal=>⟨rfl,C8 (A:=A.in1) hh gT F hx hp fb hCf hq cQ cQ m h0 ((gT A hh).frame _ _ _ dj λb hb o e=>hal b (List.mem_cons_of_mem _ hb) o e)
  (hn.at' λo e=>hal _ (List.mem_cons_self ..) o e) (GenSince.refl _ _ _)⟩⟩
end
noncomputable def eV(x:List Nat):List Nat:=bF 45 [92,45] (bF 92 [92,92] x)
theorem mL(k:Nat)(z:List Nat)(hz:1<=z.length)(x:List Nat):(bF k z x).length<=z.length * x.length:=by
 induction x with
 | nil=>
  simp[bF]
 | cons a x ih=>
  have ih:=ih
  unfold bF at *
  refine ab List.flatMap_cons<|ab List.length_append<|ab List.length_cons ?_;rw[Nat.mul_add]
  have:(if a=k then z else[a]).length<=z.length * 1:=by
   refine bq (λ_=>?_) λ_=>?_
   ·exact Nat.le_add_left _ _
   ·simpa using hz
  lia
section
variable {prog:Program} {w:World} {A:Around}
theorem Ds{elt:Expr}(h:oO elt=true):∃p1 ap k1 q1 k2 q2 pos ap2 k3 q3 k4 q4 pos2,(ap.endLine==pos.line)=true/\(ap2.endLine==pos2.line)=true/\
  elt=.Call (.Attribute (.Call (.Attribute (.Name "s" p1) "replace" ap) [.Constant (.str (S [92])) k1 q1,.Constant (.str (S [92,92])) k2 q2] [] pos) "replace" ap2) [.Constant (.str (S [45])) k3 q3,.Constant (.str (S [92,45])) k4 q4] [] pos2:=by
 exact aQ h λs=>⟨_,_,_,_,_,_,_,_,_,_,_,_,_,s.1.1.1.2,s.2,rfl⟩
theorem zg{A:Around}{s:Shared}{Q:Value->Shared->Prop}{E:Value->Shared->Prop}{x z:List Nat}{k:Nat}{t u v:Tok}(hu:u≠0)(hv:v≠0)(huv:u≠v)(au:z≠[k])(hx:x.length<=1048576)(hz:z.length<=14)
  (h:∀t' k,s.toks<=k->Q (.str (S (bF k' z x)) t') {s with toks:=k}) (hk:k'=k):wpAny (model prog w) A (call (.builtin "str.replace") [.str (S x) t,.str (S [k]) u,.str (S z) v]) Q E s:=by
 subst hk
 have hyz:(S [k']==S z)=false:=by
  rw[beq_eq_false_iff_ne];exact λe=>au (o4 e).symm
 refine wpAny_with_toks (Nat.le_refl _) (SC.replaceW hu hv huv hyz (by exact hx) (by exact hz) λt' k' ht=>?_)
 rw[vO]
 exact h t' _ ht
theorem Hh{elt:Expr}(h:oO elt=true){cenv:Env}{E:Value->Shared->Prop}{s:Shared}{m:Str->Option Value}{x:List Nat}{tx:Tok}(hkind:cenv.scope.kind=.function)(hs:cenv.scope.names.lookup (Str.ofString "s")=some .local)
  (hx:x.length<=1000) (ht:0 < s.toks) (hn:s.heap.Ns cenv.locals m) (hm:m (Str.ofString "s")=some (.str (S x) tx)):
  wpAny (model prog w) A (eval elt cenv) (λy fX=>(∃t,y=.str (S (eV x)) t)/\Keeps s fX) E s:=by
 refine rN (Ds h) λp1 ap k1 q1 k2 ar=>rN ar λq2 pos ap2 k3 q3 ar=>lh ar λk4 q4 pos2 e1 e2 ob5=>ab ob5<|wpAny_Call_method_late (trees:=backTo pos2 (starEach [.Constant (.str (S [45])) k3 q3,.Constant (.str (S [92,45])) k4 q4] cenv)) rfl (by rfl) e2 rfl<|wpAny_Call_method_late (trees:=backTo pos (starEach [.Constant (.str (S [92])) k1 q1,.Constant (.str (S [92,92])) k2 q2] cenv)) rfl (by rfl) e1 rfl<|wpAny_Name (wpAny_loadName_local hkind hs hn hm ?_) (by decide+kernel)
 refine li ("str") ("str.replace") F.plainAttrs_str F.slot_str_replace F.type_str_replace (typeIs_str _ _ _) (λb e=>nomatch e) (Calls.callWith_builtin rfl (gi rfl (args_cons (Calls.Constant_str (args_cons (Calls.Constant_str (args_nil ?_)) rfl)) rfl)))
 have l1:=mL 92 [92,92] (Nat.succ_pos _) x
 have l1':(bF 92 [92,92] x).length<=2 * x.length:=l1
 refine zg (k':=92) (Nat.ne_of_gt ht) (Nat.succ_ne_zero _) (Nat.ne_of_lt (Nat.lt_succ_self _)) (of_decide_eq_true rfl) (Nat.le_trans ‹_› (Nat.le_add_left _ _)) (Nat.le_add_left _ _) (λt' k ht'=>?_) rfl
 have ht2:0 < k:=by
  exact Nat.le_trans (Nat.le_add_left _ _) ‹_›
 refine li ("str") ("str.replace") F.plainAttrs_str F.slot_str_replace F.type_str_replace (typeIs_str _ _ _) (λb e=>nomatch e) (Calls.callWith_builtin rfl (gi rfl (args_cons (Calls.Constant_str (args_cons (Calls.Constant_str (args_nil ?_)) rfl)) rfl)))
 refine zg (k':=45) (Nat.ne_of_gt ht2) (Nat.succ_ne_zero _) (Nat.ne_of_lt (Nat.lt_succ_self _)) (of_decide_eq_true rfl) (by lia) (Nat.le_add_left _ _) (λt'' k' ht''=>?_) rfl
 exact⟨⟨t'',rfl⟩,s.heap,k',rfl,λ_ _ e=>e⟩
end
section
variable {c:Cx} {n:Nat} {aa:Env} {Z:Ctx}
theorem FT{h h':Heap}{ps:Array Value}(t1:h.get? 64=some (tabObj ps))(t2:TriplesOk ps.toList)(hx:∀a o,a≠64->h.get? a=some o->h'.get? a=some o){cv:Value}{q:Str}(r:h.CodeRec cv q):h'.CodeRec cv q:=by
 refine jQ r λa o vs t e1 e2 e3 e4=>rS a o vs t e1 (hx a o (λq=>?_) e2) e3 e4
 subst q
 replace e2:=t1▸e2;obtain rfl:=Option.some.inj e2
 cases e3
 match hps:ps.toList,t2 with
 | [],_=>
  have:ps=#[]:=by simpa using hps
  subst this;exact nS e4
 | .int _ _::.int _ _::_::ao,_=>
  replace e4:=hps▸(by simp:ps[1]? =ps.toList[1]?)▸e4;cases e4
theorem CW{pos:Pos}{ei:Scope}{A:Around}{s:Shared}{ow:Ow}{Q:Value->Shared->Prop}{E:Value->Shared->Prop}(I:Inv c aa Z ow s)(iD:aa.code=.ref 68)(hqual:aa.qual="_translate.<locals>.")(gc:pos.line=lQ.line)(eW:pos.col=lQ.col)
  (h:∀cv s',Step c s s'->(∀a o,a≠64->s.heap.get? a=some o->s'.heap.get? a=some o)->Q cv s'):wpAny (model pg c.w) A (genexprCode aa pos (aa.qual++"<genexpr>") ei) Q E s:=by
 have hq:aa.qual++"<genexpr>"=yR:=by refine ab hqual ?_;decide+kernel
 refine ab hq<|gC (I.ok.tabJ _ I.bs.j) λps t1 t2 t3 t4=>?_
 have C:=tS I.bs.sta
 cases hca:codeAmong pos ps.toList with
 | some cv=>exact wpAny_genexprCode_hit iD (C.code t1 t2) hca (h cv s (.refl _ _) λ_ _ _ e=>e)
 | none=>
  refine wpAny_with_toks (Nat.le_refl _) (wpAny_genexprCodeX iD (C.code t1 t2) (C.tab t1) hca λc' h' tk hx gf bl _ hrec htab _ ht=>?_)
  have hnew:∀a o,a≠64->s.heap.get? a=some o->h'.get? a=some o:=λa o au e=>hx a o au e
  have hl64:(ps++#[rawInt pos.line,rawInt pos.col,Value.ref c']).toList=ps.toList++[rawInt pos.line,rawInt pos.col,.ref c']:=by simp
  have htj:kv h':=by
   refine pD _ htab.2 (by exact ab hl64<|TriplesOk_snoc _ _ _ _ t2) (λcv e=>?_) (λcv e=>?_)
   ·rw[hl64,vC (by refine ab gc<|ab eW ?_;rfl) _ t2]at e
    exact FT t1 t2 hnew (t3 cv e)
   ·rw[hl64,<- r6 gc eW,codeAmong_snoc _ t2 hca]at e
    exact aC e hrec
  exact h _ _ ⟨⟨by show _<=h'.objs.size;exact Nat.le_trans ‹_› (Nat.le_of_lt ‹_›),λa o hv e=>hnew a o (λq=>hv (q▸I.ok.tab)) e⟩,λhj=>I.ok.tabK _ _ hj hnew htj,rfl,id,ht⟩ hnew
theorem xu{ei:Scope}(h:oZ ei=true):ei.names.lookup (Str.ofString "s")=some .local/\ei.names.lookup (Str.ofString ".0")=some .local/\ei.kind=.function/\ei.isCoroutine=false/\(∀y∈ei.names,y.2≠.free)/\∀y∈ei.names,y.2≠.cell:=by
 unfold oZ qJ at h
 simp only[Bool.and_eq_true,beq_iff_eq,Bool.not_eq_true',List.all_eq_true]at h
 have aw:=h
 have h2:=aw.1.1.1.1.2
 have h5:=aw.1.2
 have h6:=aw.2
 exact AV aw.1.1.1.1.1 h2 aw.1.1.1.2 h5 (λy hy=>by simpa using(h6 y hy).1) (λy hy=>by simpa using(h6 y hy).2)
theorem Cj{A:Around}{s1 s3:Shared}{ow:Ow}{la:Addr}{x:List Nat}{tx tj:Tok}{ei:Scope}{elt iter:Expr}{px gpos:Pos}{cv:Value}{bi:Addr}{aa:Env}{h':Heap}{Q:Value->Shared->Prop}{E:Value->Shared->Prop}
  (rm:bh n A) (I1:Inv c aa Z ow s1) (ht:0 < s1.toks) (hgelt:oO elt=true) (hgsc:oZ ei=true) (hx:x.length<=1000) (jm:PL s1.heap la #[.str (S x) tx])
  (cI:Step c {s1 with heap:=s1.heap.push {cls:=.type "list_iterator",data:=.fields #[.ref la,.int 0 0]}} s3)
  (keep3:∀a o,a≠64->(s1.heap.push {cls:=.type "list_iterator",data:=.fields #[.ref la,.int 0 0]}).get? a=some o->s3.heap.get? a=some o)
  (jl:h'.Ns s3.heap.objs.size (λy=>if y=".0" then some (.ref s1.heap.objs.size)else none)) (iu:Heap.SameBut s3.heap.objs.size (s3.heap.push {cls:=.type "frame",data:=.dict #[]}) h')
  (h:∀t s',Step c s1 s'->Q (.str (S (eV x)) t) s'):
  wpAny (model pg c.w) A (call (.builtin "str.join") [.str (S [45]) tj,.ref h'.objs.size]) Q E {s3 with
      gens:=s3.gens.push (.fresh (.compStart (.GeneratorExp elt [⟨.Name (Str.ofString "s") px,iter,[],0⟩] ei gpos) 0 (.ref s1.heap.objs.size) .none (genEnv ei [] s3.heap.objs.size cv bi aa))),
      toks:=s3.toks+1+1+1,
      heap:=h'.push {cls:=.type "generator",data:=.fields #[.int s3.gens.size 0,.str "<genexpr>" (s3.toks+1),.str (aa.qual++"<genexpr>") (s3.toks+1+1)]}}:=by
 have aw:=xu hgsc
 have g1:=aw.1
 have g3:=aw.2.2.1
 have g4:=aw.2.2.2.1
 generalize hG:(GenState.fresh (.compStart (.GeneratorExp elt [⟨.Name (Str.ofString "s") px,iter,[],0⟩] ei gpos) 0 (.ref s1.heap.objs.size) .none (genEnv ei [] s3.heap.objs.size cv bi aa)))=gs
 generalize hO:({cls:=.type "generator",data:=.fields #[.int s3.gens.size 0,.str "<genexpr>" (s3.toks+1),.str (aa.qual++"<genexpr>") (s3.toks+1+1)]}:Obj)=og
 have hh:A.in1.in1.handled=none:=rm.h
 have I2:Inv c aa Z ow {s1 with heap:=s1.heap.push {cls:=.type "list_iterator",data:=.fields #[.ref la,.int 0 0]}}:=I1.step (Step.push I1.ok _ s1.toks)
 have I3:=I2.step cI
 have ok:=I1.ok
 refine gC (ok.tabJ _ I1.bs.j) λps t1 _ _ _=>?_
 have h64:64 < s1.heap.objs.size:=Heap.lt_size t1
 have hI3:s3.heap.get? s1.heap.objs.size=some {cls:=.type "list_iterator",data:=.fields #[.ref la,.int 0 0]}:=keep3 _ _ (Nat.ne_of_gt h64) (Heap.get?_push_size _ rfl)
 have hIlt:s1.heap.objs.size < s3.heap.objs.size:=Heap.lt_size hI3
 have hlalt:la < s1.heap.objs.size:=aW jm λ_ e=>Heap.lt_size e
 have hl3:PL s3.heap la #[.str (S x) tx]:=aW jm λk e=>⟨k,keep3 _ _ (λq=>by subst q;rw[t1]at e;have:=congrArg (λo=>o.map Obj.data) e;cases this) (Heap.get?_push_of_some _ e)⟩
 have jo:cStatics < s1.heap.objs.size:=ah I1.bs.sta.nolimit λ_ hn _=>hn.lt
 have cj:h'.objs.size=s3.heap.objs.size+1:=by refine ab iu.1 ?_;rw[Heap.size_push]
 have keep':∀b o,s3.heap.get? b=some o->h'.get? b=some o:=λb o e=>iu.extBut b o (Nat.ne_of_lt (Heap.lt_size e)) (Heap.get?_push_of_some _ e)
 have keep₅:∀b o,s3.heap.get? b=some o->(h'.push og).get? b=some o:=λb o e=>Heap.get?_push_of_some _ (keep' b o e)
 have gT:∀A':Around,A'.handled=none->Walks pg c.w A' s1.heap.objs.size (List.range s3.heap.objs.size) [s1.heap.objs.size] 1 (λi v=>(#[Value.str (S x) tx])[i]? =some v) (λi h=>h.IsListIter s1.heap.objs.size la i/\h.IsList la #[.str (S x) tx]):=λA' hA=>
  (Walks.list hA s1.heap.objs.size la (Nat.ne_of_lt hlalt) #[.str (S x) tx]).mono_fp λb hb=>by
   rcases List.mem_cons.mp hb with rfl | hb
   ·exact List.mem_range.mpr hIlt
   ·rcases List.mem_cons.mp hb with rfl | hb
    ·exact List.mem_range.mpr (Nat.lt_trans hlalt hIlt)
    ·exact nomatch hb
 have haf:h'.objs.size∉List.range s3.heap.objs.size:=λhm=>by have:h'.objs.size < s3.heap.objs.size:=List.mem_range.mp hm;lia
 have W:=Jy (prog:=pg) (w:=c.w) hh h'.objs.size s3.gens.size s3.heap.objs.size (List.range s3.heap.objs.size) [s1.heap.objs.size] 1 (λ_ y=>∃t,y=.str (S (eV x)) t) (by exact ab cj<|Nat.succ_ne_self _) haf
  (λb hb=>by
   rcases List.mem_cons.mp hb with e | hb
   ·exact e▸List.mem_range.mpr hIlt
   ·exact nomatch hb) (by have:=rm.d;show A.depth < 1000;lia) (List.mem_range.mpr (Nat.lt_trans jo hIlt)) (Nat.ne_of_lt (Nat.lt_trans jo hIlt)) (λhm=>by
   rcases List.mem_cons.mp hm with e | hm
   ·exact absurd jo (e▸Nat.lt_irrefl _)
   ·cases hm)
 have tk3:s1.toks<=s3.toks:=cI.tk
 have fr:pq pg c.w A.in1.in1 h'.objs.size s3.gens.size s3.heap.objs.size (List.range s3.heap.objs.size) [s1.heap.objs.size] 1 (λ_ y=>∃t,y=.str (S (eV x)) t) 0 {s3 with gens:=s3.gens.push gs,toks:=s3.toks+1+1+1,heap:=h'.push og}:=by
  subst hG
  refine pq.fresh (elt:=elt) (iter:=iter) (x:=Str.ofString "s") (px:=px) (scope:=ei) (pos:=gpos) (I:=s1.heap.objs.size) (cenv:=genEnv ei [] s3.heap.objs.size cv bi aa) (m:=λy=>if y=".0" then some (.ref s1.heap.objs.size)else none) (P:=λi v=>(#[Value.str (S x) tx])[i]? =some v) hh gT _
   g1 (by simp[genEnv,g3]) g4 (λhm=>Nat.lt_irrefl _ (List.mem_range.mp hm)) (λA' E' i v ey m₂ _ hP h0 fA hm=>?_) ?_ (Array.getElem?_push_size ..) (by show 0 < s3.toks+1+1+1;exact Nat.succ_pos _) ?_ (jl.push _) (I3.bs.sta.nolimit.keeps keep₅)
  ·have:v=.str (S x) tx:=by
    cases i with
    | zero=>simpa using hP.symm
    | succ i=>simp at hP
   subst this
   exact Hh hgelt g3 g1 hx h0 fA hm
  ·exact rB hO<|⟨_,_,_,Heap.get?_push_size _ rfl,rfl,rfl,rfl⟩
  ·exact⟨⟨_,keep₅ _ _ hI3,rfl,rfl⟩,aW hl3 λk e=>PL.isList (h:=h'.push og) ⟨k,keep₅ _ _ e⟩⟩
 refine wpAny_with_toks (Nat.le_refl _) (SC.joinGen W (λi s' st=>st.1.typeIs) fr (λb hb=>?_) List.mem_cons_self (λi v hv=>aW hv λt e=>⟨_,t,e⟩) (λs' l hm hacc=>?_) (Nat.succ_pos _))
 ·skip
  rw[Heap.size_push]
  rcases List.mem_cons.mp hb with rfl | hb
  ·exact Nat.lt_succ_self _
  ·rcases List.mem_cons.mp hb with e | hb
   ·exact ab e<|ab cj<|Nat.lt_succ_of_lt (Nat.lt_succ_self _)
   ·exact ab cj<|Nat.lt_succ_of_lt (Nat.lt_succ_of_lt (List.mem_range.mp hb))
 ·have eN:l.map (·.1)=[eV x].map S:=by
   have h1:l.length=1:=by simpa[strValues]using hacc.1
   match l,h1 with
   | [(y,t)],_=>
    refine aW (hacc.2 0 (.str y t) (by rfl)) λt' e=>?_
    injection e with e1 _
    refine ab e1 ?_;rfl
  refine ab eN ?_
  have aV:(eV x).length<=4 * x.length:=by
   have l1:(bF 92 [92,92] x).length<=2 * x.length:=mL 92 [92,92] (Nat.succ_pos _) x
   have l2:(eV x).length<=2 * (bF 92 [92,92] x).length:=mL 45 [92,45] (Nat.succ_pos _) _
   lia
  refine⟨t8 (by simp;lia),λt' k hk=>?_⟩
  refine h t' _ ?_
  have iv:s'.heap.get? h'.objs.size=some og:=hm.heap _ _ (λhb=>by
   rcases List.mem_cons.mp hb with e | hb
   ·skip
    lia
   ·rcases List.mem_cons.mp hb with e | hb
    ·skip
     lia
    ·cases hb) (Heap.get?_push_size _ (by refine rB hO ?_;rfl))
  have hszs:h'.objs.size < s'.heap.objs.size:=Heap.lt_size iv
  have k1:∀a o,a≠64->s1.heap.get? a=some o->s'.heap.get? a=some o:=λa o ha e=>hm.heap _ _ (λhb=>by
   have bl:=Heap.lt_size e
   rcases List.mem_cons.mp hb with e' | hb
   ·exact absurd bl (by exact ab e'<|Nat.not_lt.mpr (Nat.le_of_lt hIlt))
   ·rcases List.mem_cons.mp hb with e' | hb
    ·exact absurd bl (by exact ab e'<|Nat.lt_irrefl _)
    ·cases hb) (keep₅ _ _ (keep3 _ _ ha (Heap.get?_push_of_some _ e)))
  have k3:∀a o,a≠s1.heap.objs.size->s3.heap.get? a=some o->s'.heap.get? a=some o:=λa o ha e=>hm.heap _ _ (λhb=>by
   have bl:=Heap.lt_size e
   rcases List.mem_cons.mp hb with e' | hb
   ·exact absurd bl (by exact ab e'<|Nat.lt_irrefl _)
   ·rcases List.mem_cons.mp hb with e' | hb
    ·exact ha e'
    ·cases hb) (keep₅ _ _ e)
  refine⟨⟨by show _<=s'.heap.objs.size;lia,λa o hv e=>k1 a o (λq=>hv (q▸ok.tab)) e⟩,λj1=>?_,?_,λhg=>?_,?_⟩
  ·have j3:c.J s3.heap:=I3.bs.j
   refine ok.jk _ _ j3 (λa hD o e=>k3 a o (λq=>?_) e) λa o fb e=>k3 a o (λq=>?_) e
   ·exact absurd (ok.jin _ _ j1 hD) (by exact ab q<|Nat.lt_irrefl _)
   ·subst q
    replace e:=hI3▸e;obtain rfl:=Option.some.inj e
    refine fz fb λvs q t e1 e2=>?_
    cases e1;cases e2
  ·exact hm.os.trans cI.os
  ·exact(AllBare.push (cI.gens hg) (by refine rB hG ?_;rfl)).moved hm.gens
  ·skip
   show s1.toks<=k
   lia
theorem GV{elt iter:Expr}{ei:Scope}{gpos ap pos px q:Pos}{kc:Nat}{x:List Nat}{l:LV}(tz:c.tz)(iD:aa.code=.ref 68)(hqual:aa.qual="_translate.<locals>.")(gc:gpos.line=lQ.line)(eW:gpos.col=lQ.col)
  (hgelt:oO elt=true) (hgsc:oZ ei=true) (hnm:AD iter=true) (h1:Ev c n aa Z iter l) (hl:dh l [sd x]) (hx:x.length<=1000) (i7:(ap.endLine==pos.line)=true):
  Ev c n aa Z (.Call (.Attribute (.Constant (.str (S [45])) kc q) "join" ap) [.GeneratorExp elt [⟨.Name (Str.ofString "s") px,iter,[],0⟩] ei gpos] [] pos) (.d (sd (eV x))):=by
 refine⟨?_⟩
 intro A s Q E ow rm I k
 have aw:=xu hgsc
 have g1:=aw.1
 have g2:=aw.2.1
 have g3:=aw.2.2.1
 have g4:=aw.2.2.2.1
 have g5:=aw.2.2.2.2.1
 have g6:=aw.2.2.2.2.2
 refine wpAny_Call_method_late (trees:=backTo pos (starEach [.GeneratorExp elt [⟨.Name (Str.ofString "s") px,iter,[],0⟩] ei gpos] aa)) rfl (by rfl) i7 rfl<|Calls.Constant_str<|⟨"str","str.join",F.plainAttrs_str,F.slot_str_join,F.type_str_join,typeIs_str _ _ _,(λb e=>nomatch e),Calls.callWith_builtin rfl (gi rfl (args_cons ?_ rfl))⟩
 have f8:Step c s {s with toks:=s.toks+1}:=.tok I.ok _
 have I0:=I.step f8
 have hs:∀v,genFold iter aa v=pure v:=λv=>by
  cases iter<;>first | rfl | (cases hnm)
 refine wpAny_GeneratorExp_make (cl:=[]) g4 (closureFor_none g5) g6 g2 g3 (by have:=rm.d;show A.depth < 1000;lia) (h1.run A _ _ E ow rm I0 λlv s1 rl al=>?_) hs
 have I1:=I0.step al
 refine cw (rl.eq hl) λla vs am jm ra=>?_;subst am
 refine wpAny_pyIter_list jm.isList ?_
 have I2:Inv c aa Z ow {s1 with heap:=s1.heap.push {cls:=.type "list_iterator",data:=.fields #[.ref la,.int 0 0]}}:=I1.step (Step.push I1.ok _ s1.toks)
 refine⟨I2.bs.sta.nolimit,CW I2 iD hqual gc eW λcv s3 cI keep3=>?_⟩
 have I3:=I2.step cI
 refine ah (wQ I3.bs.sta) λmg hg ar=>MV ar λbm ob hbm au _ _ hbo ar=>bB ar λhcls hdict hdata=>wpAny_builtinsFor (I.frm.glob▸hg) hbm au hbo hcls hdict hdata λh' jl iu=>args_nil ?_
 refine aq.bn ra (λv1 vs1 r ao jm=>?_) jm;refine aq.bO ao (λjm=>?_) jm;refine ag.bw r (λtx jm=>?_) jm
 have ht:0 < s1.toks:=Nat.lt_of_lt_of_le (I1.ok.tp tz) I1.bs.tk
 exact Cj rm I1 ht hgelt hgsc hx jm cI keep3 jl iu λt s' st=>k _ _ (.str _ _) ((f8.trans al).trans st)
end
end
section
noncomputable def uB(p:Nat×Nat):DictEntry:=⟨(p.1:Int),.int p.1 (341+6 * p.2),.str ⟨#[92,p.1]⟩ (345+6 * p.2)⟩
theorem wn:kJ=spec.zipIdx.map uB:=rfl
noncomputable def oV(k:Int):Option Value:=findBy Value.isInt kJ.toArray k
theorem xO(k:Nat):oV (k:Int)=(spec.zipIdx.find? λp=>p.1==k).map λp=>Value.str ⟨#[92,p.1]⟩ (345+6 * p.2):=by
 delta oV findBy
 refine ab wn ?_;rw[List.find?_toArray,List.find?_map,Option.map_map]
 have e:((λe=>Value.isInt (k:Int) e.key)∘uB)=λp:Nat×Nat=>p.1==k:=by
  funext p
  refine(?_:((p.1:Int)==(k:Int))=(p.1==k))
  rw[Bool.eq_iff_iff]
  simp only[beq_iff_eq]
  exact Int.ofNat_inj
 refine ab e ?_;rfl
theorem D4{k:Nat}(h:k∈spec):∃t,oV (k:Int)=some (.str ⟨#[92,k]⟩ t):=by
 rw[xO]
 cases hf:spec.zipIdx.find? λp=>p.1==k with
 | none=>
  rw[List.find?_eq_none]at hf
  obtain⟨i,hi,e⟩:=List.mem_iff_getElem.mp h
  have:=hf (spec[i],i) (by rw[List.mem_zipIdx_iff_getElem?];simp[hi])
  simp[e]at this
 | some p=>
  have e:p.1=k:=by simpa using(List.find?_some hf)
  exact⟨_,by rw[Option.map_some,e]⟩
theorem C5{k:Nat}(h:k∉spec):oV (k:Int)=none:=by
 rw[xO,Option.map_eq_none_iff,List.find?_eq_none]
 intro p hp
 obtain⟨c,i⟩:=p
 rw[List.mem_zipIdx_iff_getElem?]at hp
 simp only[beq_iff_eq]
 rintro rfl
 exact h (List.mem_of_getElem? hp:c∈spec)
theorem yB{prog:Program}{w:World}{h:Heap}(e:h.get? 52=some {cls:=.type "dict",data:=.dict kJ.toArray 24}):h.MapOf (intKind prog w) 52 oV:=by
 have hk:IntKeys kJ.toArray:=by
  intro e he
  refine ah (List.mem_map.mp (by simpa[wn]using he:e∈spec.zipIdx.map uB)) λaw hp am=>?_;obtain⟨c,i⟩:=aw;subst am
  rw[List.mem_zipIdx_iff_getElem?]at hp
  have hash:∀c∈spec,(c:Int)=hashInt c:=by decide+kernel
  exact mB c (341+6 * i) rfl (hash c (List.mem_of_getElem? hp:c∈spec))
 exact Heap.IntMap.mapOf ⟨_,_,_,e,rfl,rfl,hk,λ_=>rfl⟩ λo ho=>by replace ho:=e▸ho;exact aC ho<|⟨rfl,rfl⟩
section
variable {prog:Program} {w:World} {A:Around} {E:Value->Shared->Prop} {s:Shared}
open PySem.Builtin PySem.Builtin.Str
theorem vW{k:Nat}(e:s.heap.get? 52=some {cls:=.type "dict",data:=.dict kJ.toArray 24})(hk:k∈spec){Q:Mapped->Shared->Prop}(h:Q (.text ⟨#[92,k]⟩) {s with toks:=s.toks+1+1}):
  wpAny (model prog w) A (tableLookup (.ref 52) k) Q E s:=by
 refine aW (D4 hk) λt hv=>wpAny_bind (wpAny_attempt (wpAny_bind (wpAny_mkInt ?_)))
 refine wpAny_getItem_intMap (s:={s with toks:=s.toks+1}) (Heap.MapOf.intMap (prog:=prog) (w:=w) (yB e)) hv<|wpAny_bind (wpAny_of_eq (a:=none) (by rfl) ?_)
 refine wpAny_bind (wpAny_of_eq (a:=some ⟨#[92,k]⟩) (by rfl) ?_)
 exact wpAny_pure h
theorem BQ{k:Nat}(e:s.heap.get? 52=some {cls:=.type "dict",data:=.dict kJ.toArray 24})(hh:A.handled=none)(hk:k∉spec){Q:Mapped->Shared->Prop}
  (h:∀s',fI s s'->Q .keep s'):wpAny (model prog w) A (tableLookup (.ref 52) k) Q E s:=by
 refine iw<|wpAny_bind (wpAny_attempt (wpAny_bind (wpAny_mkInt ?_)))
 refine wpAny_getItem_missing_of (knd:=intKind prog w) (s:={s with toks:=s.toks+1}) (k:=(k:Int)) (by simp[intKind,Value.isInt]) rfl hh (yB e) (C5 hk) λh' ea hx=>cw hx.there λob t ho hc hd=>wpAny_bind (wpAny_isInstance (T:="KeyError") (b:=true) ⟨ob,ho,hc⟩ (by kernel_rfl) ?_)
 refine j9 (by rfl) (wpAny_bind (wpAny_rule (wpAny_pure λsz=>h _ ⟨hx.keeps,sz.1,rfl,rfl,sz.2⟩)))
theorem BP{k:Nat}{t:Tok}(e:s.heap.get? 52=some {cls:=.type "dict",data:=.dict kJ.toArray 24})(hh:A.handled=none)(hk:k < 128){Q:Value->Shared->Prop}
  (h:∀t s',fI s s'->Q (.str (S (if k∈spec then[92,k]else[k])) t) s'):wpAny (model prog w) A (call (.builtin "str.translate") [.str (S [k]) t,.ref 52]) Q E s:=by
 refine wpAny_call_entry F.slot_str_translate (typeIs_str _ _ _) F.entry_str_translate ?_ (F.args_str_translate_2 _ _)
 refine wpAny_bind (wpAny_of_eq (a:=(.str (S [k]) t,S [k],.ref 52)) (by kernel_rfl) ?_)
 dsimp only
 refine KFB.if_not (by rfl)<|ab (by simp[S,hk]:(S [k]).cps.all (λx=>decide (x < 128))=true)<|rB Array.forIn_toList<|wpAny_bind<|ab (show(#[k]:Array Nat).toList=[k]from rfl) ?_;rw[List.forIn_cons]
 refine wpAny_bind (KFB.if_not (by rfl) (j9 (by rfl) ?_))
 refine wpAny_bind ?_
 by_cases hs:k∈spec
 ·rw[if_pos hs]at h
  refine vW e hs<|wpAny_bind (wpAny_pure ?_)
  refine wpAny_bind (wpAny_rule (KFB.if_not (by rfl) (wpAny_bind (vW (s:={s with toks:=s.toks+1+1}) e hs ?_))))
  refine wpAny_pure ?_
  dsimp only
  refine wpAny_pure (KFB.if_not (by rfl) ?_)
  refine(?_:wpAny _ _ (do ret (<- mkStr (S [92,k]))) _ _ _)
  refine wpAny_bind (wpAny_mkStr (wpAny_pure ⟨_,rfl,h _ _ ⟨λ_ _ e=>e,Nat.le_refl _,rfl,rfl,?_⟩⟩) (by rw[dq,sizeLine_eq];simp))
  refine(?_:s.toks<=s.toks+1+1+1+1+1)
  lia
 ·rw[if_neg hs]at h
  refine BQ (A:=A.in1) e hh hs λs' g=>wpAny_bind (wpAny_pure ?_)
  refine wpAny_pure ?_
  dsimp only
  refine wpAny_pure (KFB.if_not (by rfl) ?_)
  refine(?_:wpAny _ _ (do ret (<- mkStr (S [k]))) _ _ _)
  exact wpAny_bind (wpAny_mkStr (wpAny_pure ⟨_,rfl,h _ _ (g.trans ⟨λ_ _ e=>e,Nat.le_refl _,rfl,rfl,Nat.le_succ _⟩)⟩) (by rw[dq,sizeLine_eq];simp))
end
section
variable {c:Cx} {n:Nat}
theorem B2{k:Nat}(hk:k < 128):dm c n (.builtin "str.translate") [.d (sd [k]),.d (.ref 52)] (.d (sd (if k∈spec then[92,k]else[k]))):=by
 intro aa Z A s Q E ow vs rm I rs h
 refine aT.bn rs λ_ _ r ao=>aT.bn ao λ_ _ r2 ao=>aT.bO ao<|ag.bw r λt=>?_;exact ag.rf r2<|BP (I.bs.sta.k 52 _ (by rfl)) rm.h hk λt s' g=>h _ _ (.str _ _) (g.step I.ok)
noncomputable def uO:MF->LV->List LV->Option D
 | .translate,a,[.d (.ref x)]=>if x=52 then((br a).bind dC).bind λk=>if k < 128 then some (sd (if k∈spec then[92,k]else[k]))else none else none
 | _,_,_=>none
noncomputable def gR(m:MF)(a:LV)(ls:List LV):Option D:=(ft m a ls).or (uO m a ls)
theorem mT{m:MF}{a:LV}{ls:List LV}{r:D}(h:ft m a ls=some r):gR m a ls=some r:=by
 unfold gR;refine ab h ?_;rfl
theorem ox{m:MF}{a:LV}{ls:List LV}{r:D}(h:gR m a ls=some r):ux c n (Str.ofString m.name) a ls (.d r):=by
 have h':(ft m a ls).or (uO m a ls)=some r:=h
 cases h1:ft m a ls with
 | some r'=>replace h':=h1▸h';exact aC h'<|G6 h1
 | none=>
  rw[h1]at h'
  cases m with
  | translate=>
   cases ls with | nil=>cases h' | cons l ls=>
   obtain⟨x,rfl⟩:∃x,l=.d (.ref x):=by
    cases l with
    | d d=>cases d with | ref x=>exact⟨_,rfl⟩ | _=>exact nS h'
    | _=>exact nS h'
   cases ls with | cons _ _=>cases h' | nil=>
   have bd:=ki h';clear h'
   have hx:=bd.1
   have h':=bd.2;clear bd
   refine ab hx<|bE (h') λk h1 h'=>?_
   split at h'
   ·refine aC h'<|bE h1 λx h2 h3=>ab (db h2)<|ab (eE h3) ?_
    exact pB _ _ F.plainAttrs_str F.slot_str_translate F.type_str_translate nj (B2 ‹_›)
   ·exact nS h'
  | _=>exact nS h'
noncomputable def spT:SP->List LV->Option D
 | .resub,ls=>(dC ls).bind λl=>(br l).bind λx=>if x.length<=1000 then some (sd (bM x))else none
 | .gjoin,ls=>(dC ls).bind λl=>((bD l).bind lJ).bind λxs=>(dC xs).bind λx=>if x.length<=1000 then some (sd (eV x))else none
 | .repl m z,ls=>(dC ls).bind λl=>(br l).bind λx=>if z≠[m]/\x.length<=1048576/\z.length<=14 then some (sd (bF m z x))else none
 | .btrans,_=>none
 | .b2a,_=>none
theorem uL{sc:Scope}{aa:Env}{x:Str}(hsc:aa.scope=sc)(h:kr sc x=true):aa.kindOf x=some .globalImplicit:=(congrArg (λs:Scope=>s.names.lookup x) hsc).trans (qv h)
theorem JK{K:aI}{sc:Scope}{aa:Env}(hK:K.sp=spT)(tz:c.tz)(hn:1<=n)(hsc:aa.scope=sc)(iD:aa.code=.ref 68)(hqual:aa.qual="_translate.<locals>."):iQ c n K sc aa:=by
 intro k ls r hr c' xt Z e xs iq aV eg
 have tz':c'.tz:=xt.eI.tz▸tz
 replace hr:=hK▸hr
 cases k with
 | resub=>
  refine bE hr λl h0 hr=>bE hr λx h1 hr=>iE hr λq=>?_
  have h0:=eE h0
  subst h0
  revert aV eg
  exact o3 iq λs aV eg=>a2 s.1.2.1.1.1.2.2.2.2 λc7 c8=>GU hn iD hqual s.1.2.1.1.2 (eq_of_beq c7) (eq_of_beq c8) (uL hsc s.1.1.1.2.2) (db h1▸eg 0 (Nat.succ_pos 0) (Nat.succ_pos 0)) q (n1 s.1.2.1.2.1.2) s.2
 | gjoin=>
  refine bE hr λl h0 hr=>bE hr λxs' h1 hr=>bE h1 λds h3 h4=>bE hr λx h2 hr=>iE hr λq=>?_
  have hl:dh l (List.map sd [x]):=(wW h4).trans (congrArg (List.map sd) (eE h2))▸eF h3
  have h0:=eE h0
  subst h0
  revert aV eg
  exact o3 iq λs aV eg=>a2 s.1.2.1.1.2.2.2.2 λc8 c9=>a2 s.1.2.1.1.2.1.1.2.1.2 λc5 _=>GV tz' iD hqual (eq_of_beq c8) (eq_of_beq c9) s.1.2.1.1.1.2 s.1.2.1.1.2.2.1.2 c5 (eg 0 (Nat.succ_pos 0) (Nat.succ_pos 0)) hl q s.2
 | repl m z=>
  refine bE hr λl h0 hr=>bE hr λx h1 hr=>iE hr λq=>?_
  have h0:=eE h0
  subst h0
  revert aV eg
  exact o3 iq λs aV eg=>a2 s.1.1.1.2 λc4 _=>IV tz' (db h1▸eg 0 (Nat.succ_pos 0) (Nat.succ_pos 0)) q.1 q.2.1 q.2.2 c4 s.2
 | btrans=>exact nS hr
 | b2a=>exact nS hr
end
end
noncomputable def KM:aI:=⟨λ_ _=>none,gR,λ_ _ _=>none,λ_ _=>none⟩
theorem nB(n:Nat)(c:Cx)(tz:c.tz):bQ c n KM:=⟨tz,(λ_ _ _ h=>nomatch h),(λ_ _ _ _ h _ _=>ox h),λ_ _ _ _ h=>nomatch h⟩
theorem nc{K:aI}{Z:Ctx}{x:String}{d:D}(h:qT x=some d):pe K Z (.glob x)=some (.d d):=fM h
theorem ui{K:aI}{Z:Ctx}:pe K Z .none=some (.d .none):=rfl
theorem zh{K:aI}{Z:Ctx}{b:Bool}:pe K Z (.bool b)=some (.d (.bool b)):=rfl
theorem uz{K:aI}{Z:Ctx}{a:E}{r:List E}(h:pt K Z a=some true):pt K Z (.boolop .Or (a::r))=some true:=fB h rfl
theorem nt{K:aI}{Z:Ctx}{a:E}{r:List E}{t:Bool}(h:pt K Z a=some false)(h2:pt K Z (.boolop .Or r)=some t):pt K Z (.boolop .Or (a::r))=some t:=fB h h2
noncomputable def eS(k:Nat):List Nat:=if k∈spec then[92,k]else[k]
theorem G8{k:Nat}(hk:k < 128):ps KM 0 [("pattern",.d (sd [k]))] sY=some (.ret (sd (eS k))):=by
 refine jV (fw (ek (ay (v_var rfl) (ay (nc rfl) aO)) rfl) rfl) ?_
 rw[jy (jv (v_var rfl) (ay (nc rfl) aO) (r:=sd (eS k)) ?_)]
 refine(?_:gR .translate (.d (sd [k])) [.d (.ref 52)]=_)
 have e1:ft .translate (.d (sd [k])) [.d (.ref 52)]=none:=rfl
 unfold gR
 unfold uO
 dsimp only
 refine ab (if_pos rfl)<|ab (by rfl:(br (.d (sd [k]))).bind dC=some k) ?_;rw[Option.bind_some,if_pos hk];rfl
theorem G9{b:Array UInt8}:ps KM 0 [("data",.d (.bytes b))] sZ=some (.ret (.bytes b)):=by
 exact ba (ek (ay (v_var rfl) aO) rfl)<|jV (aS (v_var rfl) (nc rfl) rfl)<|ab (jy (v_var rfl)) rfl
theorem Jk:ps KM 0 [("x",.d (.bool false))] tJ=some (.ret (.bool false)):=by
 exact ba (ek (ay (v_var rfl) aO) rfl)<|jV (nt (aS (v_var rfl) ui rfl) (uz (aS (v_var rfl) (nc rfl) rfl)))<|ab (jy (v_ite (c:=false) (fw (v_var rfl) rfl) (λh=>nomatch h) λ_=>zh)) rfl
theorem yt:cV 62 (fD "escape" "escape" (aA 7) .none .none (.str "re" 338) 61) (bu (aA 7)):=
 ⟨λP=>⟨_,rfl,rfl⟩,rfl,rfl,⟨61,rfl,by decide+kernel⟩,rfl,rfl,rfl,rfl,rfl⟩
theorem EQ{k:Nat}(hk:k < 128):Fn 1 62 [sd [k]] (sd (eS k)):=
 iG (n:=0) (K:=KM) 0 sY yt (names:=["pattern"]) (md "pattern") rfl (by decide) (by decide+kernel) DH (λc tz=>nB 0 c tz) (λ_ _ _ _ _=>gB) (G8 hk)
theorem yu:cV 83 (fD "_buffer" "_buffer" (aA 12) .none .none mx 82) (bu (aA 12)):=
 ⟨λP=>⟨_,rfl,rfl⟩,rfl,rfl,⟨82,rfl,by decide+kernel⟩,rfl,rfl,rfl,rfl,rfl⟩
theorem ER{b:Array UInt8}:Fn 1 83 [.bytes b] (.bytes b):=
 iG (n:=0) (K:=KM) 0 sZ yu (names:=["data"]) (md "data") rfl (by decide) (by decide+kernel) DI (λc tz=>nB 0 c tz) (λ_ _ _ _ _=>gB) G9
theorem zb:cV 90 (fD "_truth" "_truth" (aA 13) .none .none mx 89) (bu (aA 13)):=
 ⟨λP=>⟨_,rfl,rfl⟩,rfl,rfl,⟨89,rfl,by decide+kernel⟩,rfl,rfl,rfl,rfl,rfl⟩
theorem GK:Fn 1 90 [.bool false] (.bool false):=
 iG (n:=0) (K:=KM) 0 tJ zb (names:=["x"]) (md "x") rfl (by decide) (by decide+kernel) E7 (λc tz=>nB 0 c tz) (λ_ _ _ _ _=>gB) Jk
section
theorem wS{t:Ctx->Option Bool}{b:Ctx->Option az}(M:Nat->Ctx->Prop)(T:Nat)(turn:∀k Z,k < T->M k Z->t Z=some true/\∃af,b Z=some (.next af)/\M (k+1) af)(stop:∀Z,M T Z->t Z=some false):
  ∀(fuel k:Nat) (Z:Ctx),k<=T->T - k < fuel->M k Z->∃af,dK t b fuel Z=some (.next af)/\M T af:=by
 intro fuel
 induction fuel with
 | zero=>intro k Z _ h;lia
 | succ f ih=>
  intro k Z hk hf hM
  by_cases e:k=T
  ·cases e
   exact⟨Z,by rw[dK,stop Z hM],hM⟩
  ·obtain⟨h1,af,h2,h3⟩:=turn k Z (by lia) hM
   exact ah (ih (k+1) af (by lia) (by lia) h3) λaF h4 h5=>aJ aF (by rw[dK,h1];simp only[h2];exact h4) h5
section
variable {K:aI} {N:Nat} {Z:Ctx}
theorem pR{t:E}{b r:List St}{o:az}(M:Nat->Ctx->Prop)(T:Nat)(hN:T < N)(h0:M 0 Z)(turn:∀k Z,k < T->M k Z->pt K Z t=some true/\∃af,ps K N Z b=some (.next af)/\M (k+1) af)
  (stop:∀Z,M T Z->pt K Z t=some false) (je:∀af,M T af->ps K N af r=some o):ps K N Z (.whileS t b::r)=some o:=by
 exact ah (wS M T turn stop N 0 Z (Nat.zero_le _) (by omega) h0) λaf h1 h2=>qq h1 (je af h2)
theorem BX{t:E}{b r:List St}{o:az}(hN:0 < N)(h0:pt K Z t=some false)(h1:ps K N Z r=some o):ps K N Z (.whileS t b::r)=some o:=by
 refine qq (af:=Z) ?_ h1
 cases N with
 | zero=>omega
 | succ n=>rw[dK,h0]
theorem w'{y x:String}{r:List St}{ds:List D}{o:az}(h0:find Z x=some (.own ds))(h1:ps K N (upd Z y (.app x)) r=some o):ps K N Z (.bindapp y x::r)=some o:=
 fP (fM (oJ h0)) h1
theorem yG{x y:String}{e f:E}{r:List St}{d1 d2:D}{o:az}(h1:pe K Z e=some (.d d1))(h2:pe K Z f=some (.d d2))(h3:ps K N (upd (upd Z y (.d d2)) x (.d d1)) r=some o):ps K N Z (.swap2 x y e f::r)=some o:=
 fP (fB (fB h1 rfl) (fM (fB h2 rfl))) h3
theorem LC{x:String}{e:E}{r:List St}{a b:LV}{d:D}{o:az}(h0:find Z x=some a)(h1:pe K Z e=some b)(h2:uJ a b=some d)(h3:ps K N (upd Z x (.d d)) r=some o):ps K N Z (.augAdd x e::r)=some o:=
 fP (fB h0 (fB h1 (fM h2))) h3
theorem tA{t:E}{r:List St}{o:az}(h0:pt K Z t=some true)(h1:ps K N Z r=some o):ps K N Z (.assertS t::r)=some o:=
 fP (fB h0 rfl) h1
theorem Ny{a b:E}{s:Bool}(h1:pt K Z a=some s)(h2:s=true->∃t,pt K Z b=some t):∃t,pt K Z (.boolop .And [a,b])=some (s&&t):=by
 cases s with
 | false=>exact⟨true,kf (t:=true) h1 (λh=>nomatch h)⟩
 | true=>obtain⟨t,ht⟩:=h2 rfl;exact⟨t,kf h1 λ_=>ht⟩
theorem vX{a:E}{r:List E}(h1:pt K Z a=some false):pt K Z (.boolop .And (a::r))=some false:=fB h1 rfl
theorem sw{a b:E}(h1:pt K Z a=some true)(h2:pt K Z b=some true):pt K Z (.boolop .And [a,b])=some true:=kf h1 λ_=>h2
theorem q9{a:E}{x:List Nat}(h:pe K Z a=some (.d (sd x)))(hz:x.length<=1000000):pe K Z (.fv a)=some (.d (sd x)):=fB (fB h (da x)) (if_pos hz)
theorem K4(x y z:List Nat):rD [LV.d (sd x),.d (sd y),.d (sd z)]=some (x++(y++(z++[]))):=fB (da x) (fM (fB (da y) (fM (fB (da z) rfl))))
theorem qp{a b d:E}{x y z:List Nat}(h1:pe K Z a=some (.d (sd x)))(h2:pe K Z b=some (.d (sd y)))(h3:pe K Z d=some (.d (sd z)))(hz:x.length+y.length+z.length<=1000000):pe K Z (.fstr [a,b,d])=some (.d (sd (x++y++z))):=
 fB (ay h1 (ay h2 (ay h3 aO))) (fM (fB (K4 x y z) ((if_pos ⟨by simp;lia,Nat.le_succ _⟩).trans (congrArg (λl=>some (sd l)) (by simp)))))
end
noncomputable def qg(xs:List (List Nat)):List Nat:=[40,63,115,58]++xs.flatten++[41,92,90]
theorem Kx(x:List Nat):dg .IsNot (.d (sd x)) (.d .obj)=some true:=rfl
theorem K7(xs:List (List Nat))(hn:xs.length<=100)(hz:xs.flatten.length<=10000):ps KM 200 [("inp",.d (.list (xs.map sd))),("STAR",.d .obj)] pF=some (.ret (sd (qg xs))):=by
 unfold pF
 refine lW rfl (w' rfl (yG (d1:=.int 0) (d2:=.int (xs.length:Int)) aK ?_ ?_))
 ·have:=ek (K:=KM) (Z:=upd (upd [("inp",.d (.list (xs.map sd))),("STAR",.d .obj)] "res" (.own [])) "add" (.app "res")) (f:=.len) (ay (e:=.var "inp") (v_var rfl) aO) (on (ds:=xs.map sd) rfl (by rw[List.length_map];lia))
  rwa [List.length_map]at this
 let M:Nat->Ctx->Prop:=λk Z=>find Z "i"=some (.d (.int (k:Int)))/\find Z "n"=some (.d (.int (xs.length:Int)))/\find Z "inp"=some (.d (.list (xs.map sd)))/\find Z "STAR"=some (.d .obj)/\find Z "add"=some (.app "res")/\find Z "res"=some (.own ((xs.take k).map sd))
 refine pR M xs.length (by lia) ⟨rfl,rfl,rfl,rfl,rfl,rfl⟩ (λk Z hk hM=>?_) (λZ hM=>?_) λZ hM=>?_
 ·refine my hM λm1 m2 m3 m4 m5 m6=>?_
  have hx:(xs.map sd)[k]? =some (sd xs[k]):=by refine ab List.getElem?_map<|ab (List.getElem?_eq_getElem hk) ?_;rfl
  have hi:pe KM Z (.item (.var "inp") (.var "i"))=some (.d (sd xs[k])):=cS (v_var m3) (v_var m1) (item_list (ds:=xs.map sd) rfl hx (by rw[List.length_map];lia))
  refine⟨sw (aS (v_var m1) (v_var m2) (by rw[mK,decide_eq_true (by lia)])) (aS hi (v_var m4) (Kx _)),?_⟩
  refine aJ _ (ng m5 m6 hi (by rw[List.length_map,List.length_take];lia) (LC (a:=.d (.int (k:Int))) (by rw[ai,if_neg (by decide)];exact m1) aK rfl bo)) ?_
  refine AV (by rw[ai,if_pos rfl];rfl) ?_ ?_ ?_ ?_ ?_<;>rw[ai,if_neg (by decide),ai]<;>first | (assumption) | skip
  refine ab (if_pos rfl)<|ab List.take_add_one<|ab (List.getElem?_eq_getElem hk)<|ab List.map_append ?_;rfl
 ·obtain⟨m1,m2,m3,m4,m5,m6⟩:=hM
  exact vX (aS (v_var m1) (v_var m2) (by rw[mK,decide_eq_false (by lia)]))
 ·refine my hM λm1 m2 m3 m4 m5 m6=>BX (by decide) (aS (v_var m1) (v_var m2) (by rw[mK,decide_eq_false (by lia)])) ?_
  refine tA (aS (v_var m1) (v_var m2) (by rw[wN,beq_self_eq_true])) ?_
  rw[List.take_length]at m6
  refine ba (d:=sd xs.flatten) (jv bc (ay (v_var m6) aO) ?_) ?_
  ·have hs:(xs.map (·.length)).sum+xs.length * ([]:List Nat).length<=1000000:=by refine rB List.length_flatten ?_;simp only[List.length_nil,Nat.mul_zero];lia
   have hj:∀zs:List (List Nat),bT [] zs=zs.flatten:=by
    intro zs
    induction zs with
    | nil=>rfl
    | cons a r ih2=>cases r with
     | nil=>simp[bT]
     | cons b r=>rw[bT,ih2];simp
   have:ft .join (.d (sd [])) [.own (xs.map sd)]=some (sd xs.flatten):=by
    refine ab wP ?_
    simp only[da,Js,Option.bind_some,sx]
    refine ab (if_pos hs) ?_;rw[hj]
   exact mT this
  ·refine jy (qp bc (q9 (v_var (by rw[ai,if_pos rfl])) (by lia)) bc ?_)
   simp only[List.length_cons,List.length_nil];lia
theorem z0:cV 76 (fD "_join_translated_parts" "_join_translated_parts" (aA 10) .none .none rL 75) (bu (aA 10)):=
 ⟨λP=>⟨_,rfl,rfl⟩,rfl,rfl,⟨75,rfl,by decide+kernel⟩,rfl,rfl,rfl,rfl,rfl⟩
theorem IS(xs:List (List Nat))(hn:xs.length<=100)(hz:xs.flatten.length<=10000):Fn 1 76 [.list (xs.map sd),.obj] (sd (qg xs)):=
 iG (n:=0) (K:=KM) 200 pF z0 (names:=["inp","STAR"]) (qX "inp" "STAR") rfl (by decide) (by decide+kernel) G1 (λc tz=>nB 0 c tz) (λ_ _ _ _ _=>gB) (K7 xs hn hz)
end
section
noncomputable def rT:String->List D->Option D
 | f,[.str x]=>if f="escape" then(dC x.cps.toList).bind λk=>if k < 128 then some (sd (eS k))else none else none
 | _,_=>none
noncomputable def KT:aI:=⟨rT,gR,λ_ _ _=>none,spT⟩
theorem KO{f:String}{ds:List D}{r:D}(h:rT f ds=some r):∃k,k < 128/\f="escape"/\ds=[sd [k]]/\r=sd (eS k):=by
 cases ds with | nil=>cases h | cons d1 ds=>
 obtain⟨x,rfl⟩:∃x,d1=.str x:=by cases d1 with | str x=>exact⟨_,rfl⟩ | _=>exact nS h
 cases ds with | cons _ _=>cases h | nil=>
 have bd:=ki h;clear h
 have hf:=bd.1
 have h:=bd.2;clear bd
 refine ah (Option.bind_eq_some_iff.mp h) λk h1 h2=>?_
 split at h2
 ·rename_i hk
  exact pD k hk hf (by exact ab (congrArg D.str (by refine ab (i6 x) ?_;rw[eE h1]):(D.str x)=sd [k]) rfl) (by refine aC h2 ?_;rfl)
 ·exact nS h2
theorem Mn(c:Cx)(tz:c.tz):bQ c 1 KT:=by
 refine⟨tz,λf ds r h=>?_,(λ_ _ _ _ h _ _=>ox h),λ_ _ _ _ h=>nomatch h⟩
 refine gC (KO h) λk hk am dH ob4=>ab am<|ab dH<|ab ob4 ?_
 exact pA 62 _ _ yt (ej (by decide+kernel)) (EQ hk)
inductive Tk where
 | lit (k:Nat)
 | cls (k:Nat)
 | neg (b:List Nat)
 | any
noncomputable def Tk.src:Tk->List Nat
 | .lit k=>[k]
 | .cls k=>[91,k,93]
 | .neg b=>91::(33::b++[93])
 | .any=>[63]
noncomputable def i0(b:List Nat):List Nat:=bM (if 45∈b then eV b else bF 92 [92,92] b)
noncomputable def Tk.out:Tk->List Nat
 | .lit k=>eS k
 | .cls k=>if k=91 then[91,92,91,93]else[91,k,93]
 | .neg b=>[91,94]++i0 b++[93]
 | .any=>[46]
noncomputable def Tk.Ok:Tk->Prop
 | .lit k=>k < 128/\k≠42/\k≠63/\k≠91
 | .cls k=>k=91∨k=42∨k=63
 | .neg b=>b≠[]/\b.length<=45/\93∉b.tail/\45∉b.dropLast
 | .any=>True
section
variable {N:Nat} {Z:Ctx}
theorem Hq(Z:Ctx)(x:String)(a b:LV):upd (upd Z x a) x b=upd Z x b:=by
 induction Z with
 | nil=>simp[upd]
 | cons p r ih=>
  obtain⟨y,m⟩:=p
  by_cases h:y=x
  ·simp[upd,h]
  ·simp[upd,h,ih]
theorem xI{Z:Ctx}{x:String}{l:LV}(h:find Z x=some l):upd Z x l=Z:=by
 induction Z with
 | nil=>exact nS h
 | cons p r ih=>
  obtain⟨y,m⟩:=p
  dsimp only[find]at h
  rw[upd]
  by_cases e:y=x
  ·rw[if_pos e]at h⊢;refine aC h<|ab e ?_;rfl
  ·rw[if_neg e]at h⊢;exact ab (ih h) rfl
theorem d7{K:aI}{t:E}{b o r:List St}{q:az}{af:Ctx}(h0:pt K Z t=some false)(h1:ps K N Z o=some (.next af))(h2:ps K N af r=some q):ps K N Z (.ifS t b o::r)=some q:=
 wu h0 (by exact ab h1<|h2)
theorem jz{K:aI}{t:E}{b o r:List St}{q:az}{af:Ctx}(h0:pt K Z t=some true)(h1:ps K N Z b=some (.next af))(h2:ps K N af r=some q):ps K N Z (.ifS t b o::r)=some q:=
 jV h0 (by exact ab h1<|h2)
theorem gv(i:Nat):cX .Add (.d (.int (i:Int))) (.d (.int 1))=some (.int ((i+1:Nat):Int)):=rfl
theorem ru(i:Nat):cX .Add (.d (.int (i:Int))) (.d (.int 2))=some (.int ((i+2:Nat):Int)):=rfl
theorem MI(i:Nat):cX .Add (.d (.int (i:Int))) (.d (.int 3))=some (.int ((i+3:Nat):Int)):=rfl
theorem oK{i n:Nat}(h:i < n):dg .Lt (.d (.int (i:Int))) (.d (.int (n:Int)))=some true:=by rw[mK,decide_eq_true (by lia)]
theorem Ah{i n:Nat}(h:¬i < n):dg .Lt (.d (.int (i:Int))) (.d (.int (n:Int)))=some false:=by rw[mK,decide_eq_false (by lia)]
theorem fQ(a b:Nat):dg .Eq (.d (sd [a])) (.d (sd [b]))=some (decide (a=b)):=by
 rw[sM];congr 1;rw[Bool.eq_iff_iff];simp
theorem qG(a b:Nat):dg .NotEq (.d (sd [a])) (.d (sd [b]))=some (!decide (a=b)):=by
 rw[wM];congr 1;rw[Bool.eq_iff_iff];simp
theorem Ac{K:aI}{r:List St}{o:az}{pat:List Nat}{j ch:Nat}(hp:find Z "pat"=some (.d (sd pat)))(hn:find Z "n"=some (.d (.int (pat.length:Int))))(hj:find Z "j"=some (.d (.int (j:Int))))(bl:j < pat.length)(hz:pat.length<=1000)
  (h:ps K N (upd Z "j" (.d (.int ((if pat[j]=ch then j+1 else j:Nat):Int)))) r=some o):
  ps K N Z (.ifS (.boolop .And [.cmp .Lt (.var "j") (.var "n"),.cmp .Eq (.item (.var "pat") (.var "j")) (.str [ch])]) [.assign "j" (.bin .Add (.var "j") (.int 1))] []::r)=some o:=by
 have ht:pt K Z (.boolop .And [.cmp .Lt (.var "j") (.var "n"),.cmp .Eq (.item (.var "pat") (.var "j")) (.str [ch])])=some (decide (pat[j]=ch)):=by
  have:=kf (K:=K) (Z:=Z) (aS (v_var hj) (v_var hn) (oK bl)) λ_=>aS (cS (v_var hp) (v_var hj) (item_str (List.getElem?_eq_getElem bl) (by lia))) (bc (l:=[ch])) (fQ _ _)
  exact this
 by_cases e:pat[j]=ch
 ·rw[decide_eq_true e]at ht
  rw[if_pos e]at h
  exact jz ht (ba (aU (v_var hj) aK (gv j)) bo) h
 ·rw[decide_eq_false e]at ht
  rw[if_neg e,xI hj]at h
  exact jx ht h
theorem JR{K:aI}{r:List St}{o:az}{pat:List Nat}{j jE:Nat}(hp:find Z "pat"=some (.d (sd pat)))(hn:find Z "n"=some (.d (.int (pat.length:Int))))(hj:find Z "j"=some (.d (.int (j:Int))))(hle:j<=jE)(hz:pat.length<=1000)(hN:1000 < N)
  (hE:pat[jE]? =some 93) (gE:∀t,j<=t->t < jE->pat[t]? ≠some 93) (h:ps K N (upd Z "j" (.d (.int (jE:Int)))) r=some o):
  ps K N Z (.whileS (.boolop .And [.cmp .Lt (.var "j") (.var "n"),.cmp .NotEq (.item (.var "pat") (.var "j")) (.str [93])]) [.assign "j" (.bin .Add (.var "j") (.int 1))]::r)=some o:=by
 have bl:jE < pat.length:=by
  by_cases q:jE < pat.length
  ·exact q
  ·replace hE:=Eq.trans (Eq.symm (List.getElem?_eq_none (by lia))) hE;exact nS hE
 refine pR (λk af=>af=upd Z "j" (.d (.int ((j+k:Nat):Int)))) (jE - j) (by lia) (by rw[Nat.add_zero,xI hj]) (λk af hk hM=>?_) (λaf hM=>?_) λaf hM=>?_
 ·subst hM
  have hlt':j+k < pat.length:=by lia
  have gY:find (upd Z "j" (.d (.int ((j+k:Nat):Int)))) "j"=some (.d (.int ((j+k:Nat):Int))):=by rw[ai,if_pos rfl]
  have hp':find (upd Z "j" (.d (.int ((j+k:Nat):Int)))) "pat"=some (.d (sd pat)):=by rw[ai,if_neg (by decide)];exact hp
  have jl:find (upd Z "j" (.d (.int ((j+k:Nat):Int)))) "n"=some (.d (.int (pat.length:Int))):=by rw[ai,if_neg (by decide)];exact hn
  refine⟨sw (aS (v_var gY) (v_var jl) (oK hlt')) (aS (cS (v_var hp') (v_var gY) (item_str (List.getElem?_eq_getElem hlt') (by lia))) bc ?_),?_⟩
  ·rw[qG,decide_eq_false (λe=>gE (j+k) (by lia) (by lia) (by refine ab (List.getElem?_eq_getElem hlt') ?_;rw[e]):pat[j+k]≠93)];rfl
  ·exact aJ _ (ba (aU (v_var gY) aK (gv (j+k))) bo) (by rw[Hq];rfl)
 ·subst hM
  refine ab (show j+(jE - j)=jE by lia) ?_
  have gY:find (upd Z "j" (.d (.int (jE:Int)))) "j"=some (.d (.int (jE:Int))):=by rw[ai,if_pos rfl]
  have hp':find (upd Z "j" (.d (.int (jE:Int)))) "pat"=some (.d (sd pat)):=by rw[ai,if_neg (by decide)];exact hp
  have jl:find (upd Z "j" (.d (.int (jE:Int)))) "n"=some (.d (.int (pat.length:Int))):=by rw[ai,if_neg (by decide)];exact hn
  exact(kf (K:=K) (aS (v_var gY) (v_var jl) (oK bl)) λ_=>aS (cS (v_var hp') (v_var gY) (item_str hE (by lia))) (bc (l:=[93])) (qG _ _))
 ·subst hM
  exact ab (show j+(jE - j)=jE by lia) h
end
structure TM(pat:List Nat)(aB:List (List Nat))(i:Nat)(Z:Ctx):Prop where
 fpat:find Z "pat"=some (.d (sd pat))
 fn:find Z "n"=some (.d (.int (pat.length:Int)))
 fi:find Z "i"=some (.d (.int (i:Int)))
 fstar:find Z "STAR"=some (.d .obj)
 fq:find Z "QUESTION_MARK"=some (.d (sd [46]))
 fadd:find Z "add"=some (.app "res")
 fres:find Z "res"=some (.own (aB.map sd))
 na:d8 Z "chunks"=true
noncomputable def AS(l:LV)(y:String):Bool:=match l with
 | .app w=>decide (w≠y)
 | _=>true
theorem pT(z:String)(m:LV)(r:Ctx)(y:String):d8 ((z,m)::r) y=(AS m y&&d8 r y):=by
 cases m<;>rfl
theorem fJ{Z:Ctx}{x y:String}{l:LV}(h:d8 Z y=true)(hl:∀z,l≠.app z):d8 (upd Z x l) y=true:=by
 have hn:AS l y=true:=by cases l<;>first | rfl | exact absurd rfl (hl _)
 induction Z with
 | nil=>
  delta upd
  rw[pT,hn];rfl
 | cons p r ih=>
  have aw:=p
  rw[pT,Bool.and_eq_true]at h
  dsimp only[upd]
  refine bq (λ_=>?_) λ_=>?_
  ·rw[pT,hn,h.2];rfl
  ·rw[pT,ih h.2,h.1];rfl
theorem TM.upd{pat:List Nat}{aB:List (List Nat)}{i:Nat}{Z:Ctx}(m:TM pat aB i Z)(x:String)(d:D)(hx:x≠"pat"/\x≠"n"/\x≠"i"/\x≠"STAR"/\x≠"QUESTION_MARK"/\x≠"add"/\x≠"res":=by decide):TM pat aB i (upd Z x (.d d)):=by
 refine my hx λh1 h2 h3 h4 h5 ar=>bR ar λh6 h7=>⟨?_,?_,?_,?_,?_,?_,?_,fJ m.na λ_ h=>nomatch h⟩<;>rw[ai,if_neg (by assumption)]
 ·exact m.fpat
 ·exact m.fn
 ·exact m.fi
 ·exact m.fstar
 ·exact m.fq
 ·exact m.fadd
 ·exact m.fres
theorem TM.own{pat:List Nat}{aB:List (List Nat)}{i:Nat}{Z:Ctx}(m:TM pat aB i Z)(ds:List D):TM pat aB i (Mine.upd Z "chunks" (.own ds)):=by
 refine⟨?_,?_,?_,?_,?_,?_,?_,fJ m.na λ_ h=>nomatch h⟩<;>rw[ai];rw[if_neg (by decide)]
 ·exact m.fpat
 ·exact m.fn
 ·exact m.fi
 ·exact m.fstar
 ·exact m.fq
 ·exact m.fadd
 ·exact m.fres
theorem TM.nE{pat:List Nat}{aB:List (List Nat)}{i:Nat}{Z:Ctx}(m:TM pat aB i Z)(j:Nat):TM pat aB j (Mine.upd Z "i" (.d (.int (j:Int)))):=by
 refine⟨?_,?_,by rw[ai,if_pos rfl],?_,?_,?_,?_,fJ m.na λ_ h=>nomatch h⟩<;>rw[ai];rw[if_neg (by decide)]
 ·exact m.fpat
 ·exact m.fn
 ·exact m.fstar
 ·exact m.fq
 ·exact m.fadd
 ·exact m.fres
theorem TM.push{pat:List Nat}{aB:List (List Nat)}{i:Nat}{Z:Ctx}(m:TM pat aB i Z)(o:List Nat):TM pat (aB++[o]) i (Mine.upd Z "res" (.own (aB.map sd++[sd o]))):=by
 refine⟨?_,?_,?_,?_,?_,?_,by rw[ai,if_pos rfl,List.map_append];rfl,fJ m.na λ_ h=>nomatch h⟩<;>rw[ai];rw[if_neg (by decide)]
 ·exact m.fpat
 ·exact m.fn
 ·exact m.fi
 ·exact m.fstar
 ·exact m.fq
 ·exact m.fadd
noncomputable def qC:St->List St
 | .whileS _ b=>b
 | _=>[]
noncomputable def lV:List St:=qC (pK.getD 3 .bad)
section
variable {N:Nat} {Z:Ctx} {pat:List Nat} {aB:List (List Nat)} {i:Nat}
theorem FC{k:Nat}(m:TM pat aB i Z)(ok:Tk.Ok (.lit k))(hk:pat[i]? =some k)(hz:pat.length<=1000)(hl:aB.length<=1000):∃af,ps KT N Z lV=some (.next af)/\TM pat (aB++[Tk.out (.lit k)]) (i+1) af:=by
 have aw:=ok
 have h2:=aw.2.1
 have h4:=aw.2.2.2
 have m1:=m.upd "c" (sd [k])
 have m2:=m1.nE (i+1)
 have hc:find (upd (upd Z "c" (.d (sd [k]))) "i" (.d (.int ((i+1:Nat):Int)))) "c"=some (.d (sd [k])):=by rw[ai,if_neg (by decide),ai,if_pos rfl]
 have no:∀j:Nat,k≠j->pt KT (upd (upd Z "c" (.d (sd [k]))) "i" (.d (.int ((i+1:Nat):Int)))) (.cmp .Eq (.var "c") (.str [j]))=some false:=λj hj=>aS (v_var hc) bc (by rw[fQ,decide_eq_false hj])
 refine aJ _ (ba (cS (v_var m.fpat) (v_var m.fi) (item_str hk (by lia))) (ba (aU (v_var m1.fi) aK (gv i)) (d7 (no 42 h2) (d7 (no 63 aw.2.2.1) (d7 (no 91 h4) (ng m2.fadd m2.fres (d:=sd (eS k)) ?_ (by rw[List.length_map];lia) bo) bo) bo) bo))) (m2.push _)
 refine fc (ay (v_var hc) aO) rfl<|(?_:rT "escape" [sd [k]]=_)
 have e:dC (S [k]).cps.toList=some k:=rfl
 unfold rT
 dsimp only
 refine ab (if_pos rfl)<|ab e ?_;rw[Option.bind_some,if_pos aw.1]
theorem step_any(m:TM pat aB i Z)(hk:pat[i]? =some 63)(hz:pat.length<=1000)(hl:aB.length<=1000):∃af,ps KT N Z lV=some (.next af)/\TM pat (aB++[Tk.out .any]) (i+1) af:=by
 have m1:=m.upd "c" (sd [63])
 have m2:=m1.nE (i+1)
 have no:∀j:Nat,pt KT (upd (upd Z "c" (.d (sd [63]))) "i" (.d (.int ((i+1:Nat):Int)))) (.cmp .Eq (.var "c") (.str [j]))=some (decide (63=j)):=λj=>aS (v_var (by rw[ai,if_neg (by decide),ai,if_pos rfl]:find (upd (upd Z "c" (.d (sd [63]))) "i" (.d (.int ((i+1:Nat):Int)))) "c"=some (.d (sd [63])))) bc (fQ _ _)
 exact aJ _ (ba (cS (v_var m.fpat) (v_var m.fi) (item_str hk (by lia))) (ba (aU (v_var m1.fi) aK (gv i)) (d7 (no 42) (jz (no 63) (ng m2.fadd m2.fres (v_var m2.fq) (by rw[List.length_map];lia) bo) bo) bo))) (m2.push _)
end
noncomputable def KD:St->List St
 | .ifS _ b _=>b
 | _=>[]
noncomputable def oN:St->List St
 | .ifS _ _ o=>o
 | _=>[]
noncomputable def HG:St:=(oN ((oN (lV.getD 2 .bad)).getD 0 .bad)).getD 0 .bad
noncomputable def zR:List St:=(KD HG).drop 4
noncomputable def zQ:List St:=oN (zR.getD 0 .bad)
noncomputable def zm:List St:=zQ.drop 2
section
variable {N:Nat} {Z:Ctx} {pat:List Nat} {aB:List (List Nat)} {i:Nat}
theorem D5{l:LV}{y:List Nat}(h1:br l=some y)(h:y.length<=1000):spT .resub [l]=some (sd (bM y)):=fB h1 (if_pos h)
theorem FI{l:LV}{m:Nat}{z y:List Nat}(h1:br l=some y)(h:z≠[m]/\y.length<=1048576/\z.length<=14):spT (.repl m z) [l]=some (sd (bF m z y)):=fB h1 (if_pos h)
theorem D6{l:LV}{ds:List D}{w:List Nat}(h1:bD l=some ds)(h2:lJ ds=some [w])(h:w.length<=1000):spT .gjoin [l]=some (sd (eV w)):=fB (fB h1 h2) (if_pos h)
theorem o8{x:List Nat}(hz:x.length<=1000000):re (.d (sd x))=some (!x.isEmpty):=by
 refine(?_:Option.or (Option.bind (br (.d (sd x))) _) _=_)
 rw[da,Option.bind_some,if_pos hz];rfl
theorem tm{y:List Nat}(h:y.length<=1000):KT.sp .resub [.d (sd y)]=some (sd (bM y)):=D5 (da y) h
theorem oX{a:Nat}{r:List Nat}(hz:r.length<=100000):hW (.d (sd (a::r))) (.d (.int 0))=some (sd [a]):=item_str (x:=a::r) (k:=0) rfl (by simp only[List.length_cons];lia)
theorem MK{a:Nat}{r:List Nat}(hz:r.length<=100000):ms (.d (sd (a::r))) (some 1) none=some (sd r):=by
 have:=kL (x:=a::r) (lo:=some ((1:Nat):Int)) (hi:=none) (by simp only[List.length_cons];lia)
 rw[GZ]at this
 exact this
theorem xL{jE:Nat}{y zs:List Nat}(m:TM pat aB i Z)(hj:find Z "j"=some (.d (.int (jE:Int))))(hs:find Z "stuff"=some (.d (sd y)))(hy:bM y=33::zs)(hz:zs≠[])(aV:y.length<=200)(hl:aB.length<=1000):
  ∃aF,ps KT N Z zm=some (.next aF)/\TM pat (aB++[[91]++(94::zs)++[93]]) (jE+1) aF:=by
 have hel:=yh y
 replace hel:=List.length_cons▸hy▸hel
 have cz:find (upd (upd Z "stuff" (.d (sd (33::zs)))) "i" (.d (.int ((jE+1:Nat):Int)))) "stuff"=some (.d (sd (33::zs))):=by rw[ai,if_neg (by decide),ai,if_pos rfl]
 have m2:=((m.upd "stuff" (sd (33::zs))).nE (jE+1)).upd "stuff" (sd (94::zs))
 have au:((33::zs)==[33])=false:=by
  cases zs with
  | nil=>exact absurd rfl hz
  | cons a r=>rfl
 refine⟨_,lr (ay (v_var hs) aO) (by refine ab (tm (by lia)) ?_;rw[hy]) (ba (aU (v_var (by rw[ai,if_neg (by decide)];exact hj)) aK (gv jE)) (d7 (uA (fw (v_var cz) (o8 (by simp only[List.length_cons];lia)))) (d7 (aS (v_var cz) bc (by rw[sM,au]))
  (jz (aS (cS (v_var cz) aK (oX (by lia))) bc (fQ 33 33)) (ba (aU bc (v_cut (v_var cz) (fg rfl aK) oI (MK (by lia))) (mU (a:=[94]) (by simp only[List.length_cons,List.length_nil];lia))) bo) (ng m2.fadd m2.fres (qp bc (q9 (x:=94::zs) (v_var (by rw[ai,if_pos rfl];rfl)) ?_) bc ?_) (by rw[List.length_map];lia) bo)) bo) bo)),m2.push _⟩
 ·simp only[List.length_cons];lia
 ·simp only[List.length_cons,List.length_nil];lia
theorem Fv{jE k:Nat}(m:TM pat aB i Z)(hj:find Z "j"=some (.d (.int (jE:Int))))(hs:find Z "stuff"=some (.d (sd [k])))(hk:k=91∨k=42∨k=63)(hl:aB.length<=1000):
  ∃aF,ps KT N Z zm=some (.next aF)/\TM pat (aB++[Tk.out (.cls k)]) (jE+1) aF:=by
 have hy:bM [k]=[k]:=by rcases hk with rfl | rfl | rfl<;>rfl
 have m1:=(m.upd "stuff" (sd [k])).nE (jE+1)
 have cz:find (upd (upd Z "stuff" (.d (sd [k]))) "i" (.d (.int ((jE+1:Nat):Int)))) "stuff"=some (.d (sd [k])):=by rw[ai,if_neg (by decide),ai,if_pos rfl]
 have h33:k≠33:=by rcases hk with rfl | rfl | rfl<;>decide
 have htup:pe KT (upd (upd Z "stuff" (.d (sd [k]))) "i" (.d (.int ((jE+1:Nat):Int)))) (.tup [.str [94],.str [91]])=some (.d (.tup [sd [94],sd [91]])):=by
  rfl
 have du:dg .In (.d (sd [k])) (.d (.tup [sd [94],sd [91]]))=some (decide (k=91)):=by rcases hk with rfl | rfl | rfl<;>rfl
 by_cases h91:k=91
 ·subst h91
  have m2:=m1.upd "stuff" (sd [92,91])
  exact⟨_,lr (ay (v_var hs) aO) (by refine ab (tm (by decide)) ?_;rw[hy]) (ba (aU (v_var (by rw[ai,if_neg (by decide)];exact hj)) aK (gv jE)) (d7 (uA (fw (v_var cz) (o8 (by decide)))) (d7 (aS (v_var cz) bc (fQ _ _))
   (d7 (aS (cS (v_var cz) aK (oX (by decide))) bc (fQ 91 33)) (jz (aS (cS (v_var cz) aK (oX (by decide))) htup du) (ba (aU bc (v_var cz) (mU (a:=[92]) (by decide))) bo) bo) (ng m2.fadd m2.fres (qp bc (q9 (x:=[92,91]) (v_var (by rw[ai,if_pos rfl];rfl)) (by decide)) bc (by decide)) (by rw[List.length_map];lia) bo)) bo) bo)),m2.push _⟩
 ·rw[decide_eq_false h91]at du
  have ho:Tk.out (.cls k)=[91]++[k]++[93]:=by show(if k=91 then _ else _)=_;refine ab (if_neg h91) ?_;rfl
  exact ab ho<|⟨_,lr (ay (v_var hs) aO) (by refine ab (tm (by simp)) ?_;rw[hy]) (ba (aU (v_var (by rw[ai,if_neg (by decide)];exact hj)) aK (gv jE)) (d7 (uA (fw (v_var cz) (o8 (by simp)))) (d7 (aS (v_var cz) bc (by rw[fQ,decide_eq_false h33]))
   (d7 (aS (cS (v_var cz) aK (oX (by simp))) bc (by rw[fQ,decide_eq_false h33])) (jx (aS (cS (v_var cz) aK (oX (by simp))) htup du) bo) (ng m1.fadd m1.fres (qp bc (q9 (v_var cz) (by simp)) bc (by simp)) (by rw[List.length_map];lia) bo)) bo) bo)),m1.push _⟩
theorem y3{jE j1 j2:Nat}{o:List Nat}(m:TM pat aB i Z)(hz:pat.length<=1000)(hN:1000 < N)(h0:pat[i]? =some 91)(hi1:i+1 < pat.length)(e1:(if pat[i+1]=33 then i+1+1 else i+1)=j1)(hj1:j1 < pat.length)(e2:(if pat[j1]=93 then j1+1 else j1)=j2)(hle:j2<=jE)
  (hE:pat[jE]? =some 93) (gE:∀t,j2<=t->t < jE->pat[t]? ≠some 93)
  (ao:∀af,TM pat aB (i+1) af->find af "j"=some (.d (.int (jE:Int)))->∃aF,ps KT N af zR=some (.next aF)/\TM pat (aB++[o]) (jE+1) aF):
  ∃aF,ps KT N Z lV=some (.next aF)/\TM pat (aB++[o]) (jE+1) aF:=by
 have m1:=m.upd "c" (sd [91])
 have m2:=m1.nE (i+1)
 have m3:=m2.upd "j" (.int ((i+1:Nat):Int))
 have m4:=m3.upd "j" (.int (j1:Int))
 have m5:=m4.upd "j" (.int (j2:Int))
 have no:∀j:Nat,pt KT (upd (upd Z "c" (.d (sd [91]))) "i" (.d (.int ((i+1:Nat):Int)))) (.cmp .Eq (.var "c") (.str [j]))=some (decide (91=j)):=λj=>aS (v_var (by rw[ai,if_neg (by decide),ai,if_pos rfl]:find (upd (upd Z "c" (.d (sd [91]))) "i" (.d (.int ((i+1:Nat):Int)))) "c"=some (.d (sd [91])))) bc (fQ _ _)
 refine ah (ao _ (m5.upd "j" (.int (jE:Int))) (by rw[ai,if_pos rfl])) λaF h1 h2=>aJ aF (ba (cS (v_var m.fpat) (v_var m.fi) (item_str h0 (by lia))) (ba (aU (v_var m1.fi) aK (gv i)) (d7 (no 42) (d7 (no 63) (jz (no 91) (ba (v_var m2.fi) (Ac m3.fpat m3.fn (by rw[ai,if_pos rfl]) hi1 hz ?_)) bo) bo) bo))) h2
 exact ab e1<|Ac m4.fpat m4.fn (by rw[ai,if_pos rfl]) hj1 hz<|ab e2<|JR m5.fpat m5.fn (by rw[ai,if_pos rfl]) hle hz hN hE gE h1
theorem uM{j n:Nat}(h:j < n):dg .GtE (.d (.int (j:Int))) (.d (.int (n:Int)))=some false:=by rw[sP,decide_eq_false (by lia)]
theorem oF{jE:Nat}{w:List Nat}(m:TM pat aB i Z)(hj:find Z "j"=some (.d (.int (jE:Int))))(hz:pat.length<=1000)(hw:(pat.drop i).take (jE - i)=w):pe KT Z (.cut (.var "pat") (.var "i") (.var "j"))=some (.d (sd w)):=by
 refine v_cut (v_var m.fpat) (fg rfl (v_var m.fi)) (fg rfl (v_var hj))<|ab (kL (by lia)) ?_;rw[lH,hw]
theorem yC{m:Nat}{z y:List Nat}(h1:z≠[m])(h2:y.length<=1048576)(h3:z.length<=14):KT.sp (.repl m z) [.d (sd y)]=some (sd (bF m z y)):=FI (da y) ⟨h1,h2,h3⟩
theorem sV(k:Nat)(y:List Nat):dg .NotIn (.d (sd [k])) (.d (sd y))=some (!decide (k∈y)):=vM k y
theorem FD{k:Nat}(m:TM pat aB i Z)(ok:Tk.Ok (.cls k))(h0:pat[i]? =some 91)(h1:pat[i+1]? =some k)(h2:pat[i+2]? =some 93)(hz:pat.length<=1000)(hN:1000 < N)(hl:aB.length<=1000):
  ∃af,ps KT N Z lV=some (.next af)/\TM pat (aB++[Tk.out (.cls k)]) (i+2+1) af:=by
 have bl:i+2 < pat.length:=by
  by_cases q:i+2 < pat.length
  ·exact q
  ·replace h2:=Eq.trans (Eq.symm (List.getElem?_eq_none (by lia))) h2;exact nS h2
 have hk:pat[i+1]=k:=by rw[List.getElem?_eq_getElem (by lia)]at h1;exact Option.some.inj h1
 have gW:k≠33/\k≠93/\k≠45/\k≠92:=by rcases ok with rfl | rfl | rfl<;>decide
 refine y3 (j1:=i+1) (j2:=i+1) m hz hN h0 (by lia) (by refine ab hk ?_;rw[if_neg gW.1]) (by lia) (by refine ab hk ?_;rw[if_neg gW.2.1]) (by lia) h2 (λt a b=>?_) λaf m' hj=>?_
 ·have:t=i+1:=by lia
  exact ab this<|ab h1<| λe=>gW.2.1 (Option.some.inj e)
 ·have hw:(pat.drop (i+1)).take (i+2 - (i+1))=[k]:=by
   refine ab (show i+2 - (i+1)=1 by lia) ?_;rw[take_one,h1];rfl
  have hrep:bF 92 [92,92] [k]=[k]:=by unfold bF;simp[gW.2.2.2]
  refine ah (Fv (N:=N) (jE:=i+2) ((m'.upd "stuff" (sd [k])).upd "stuff" (sd [k])) (by rw[ai,if_neg (by decide),ai,if_neg (by decide)];exact hj) (by rw[ai,if_pos rfl]) ok hl) λaF q1 q2=>?_
  refine aJ aF (d7 (aS (v_var hj) (v_var m'.fn) (uM (by lia))) (ba (oF m' hj hz hw) (jz (aS bc (v_var (by rw[ai,if_pos rfl])) (by rw[sV,decide_eq_false (by simpa using gW.2.2.1.symm)];rfl)) (lr (ay (v_var (by rw[ai,if_pos rfl])) aO) (by refine ab (yC (by decide) (by simp) (by decide)) ?_;rw[hrep]) bo) q1)) bo) q2
end
end
section
noncomputable def zO:List St:=oN (zQ.getD 1 .bad)
theorem wk{t:Ctx->Option Bool}{b:Ctx->Option az}{n:Nat}{Z af:Ctx}(h1:t Z=some true)(h2:b Z=some (.brk af)):dK t b (n+1) Z=some (.next af):=by rw[dK,h1];simp only[h2]
theorem wj{t:Ctx->Option Bool}{b:Ctx->Option az}{n:Nat}{Z af:Ctx}{o:Option az}(h1:t Z=some true)(h2:b Z=some (.next af))(h3:dK t b n af=o):dK t b (n+1) Z=o:=by rw[dK,h1];simp only[h2];exact h3
section
variable {N:Nat} {Z:Ctx} {pat:List Nat} {aB:List (List Nat)} {i:Nat}
theorem uk{k j:Nat}(m:TM pat aB i Z)(hk:find Z "k"=some (.d (.int (k:Int))))(hj:find Z "j"=some (.d (.int (j:Int)))):pe KT Z (.meth (.var "pat") .find [.str [45],.var "k",.var "j"])=some (.d (.int (g9 pat 45 k j))):=by
 refine jv (v_var m.fpat) (ay bc (ay (v_var hk) (ay (v_var hj) aO))) ?_
 have e:ft .find (.d (sd pat)) [.d (sd [45]),.d (.int (k:Int)),.d (.int (j:Int))]=some (.int (g9 pat 45 k j)):=by
  refine ab DL ?_
  simp only[da,lI,Option.bind_some]
  show Option.bind (some 45) _=_
  rw[Option.bind_some,if_pos ⟨by exact Int.natCast_nonneg _,by exact Int.natCast_nonneg _⟩,Int.toNat_natCast,Int.toNat_natCast]
 exact mT e
theorem C9{K:aI}{x:String}{l:List Nat}{ds:List D}{y:Str}(h0:find Z x=some (.own ds))(hl:ds.getLast?=some (.str y))(hz:y.cps.size+l.length<=1000000/\ds.length<=1000000):jO K N Z (.catLast x l)=some (.next (upd Z x (.own (ds.dropLast++[sd (y.cps.toList++l)])))):=
 fB (oJ h0) (fB (fB hl rfl) (if_pos hz))
theorem FH{w:List Nat}(h:w.length<=1000):KT.sp .gjoin [.d (.list [sd w])]=some (sd (eV w)):=D6 (oy _) (sx [w]) h
theorem um{K:aI}:pt K Z (.tv (.bool true))=some true:=fw (show pe K Z (.bool true)=some (.d (.bool true))from rfl) rfl
theorem Nm{K:aI}{x:String}{ds:List D}(h:find Z x=some (.own ds)):pe K Z (.var x)=some (.own ds):=v_var h
theorem xA{jE:Nat}{w:List Nat}(m:TM pat aB i Z)(hj:find Z "j"=some (.d (.int (jE:Int))))(hc:find Z "chunks"=some (.own [sd w]))(hw:w.length<=1000):
  ∃aF i',ps KT N Z (zO.drop 5)=some (.next aF)/\TM pat aB i' aF/\find aF "j"=some (.d (.int (jE:Int)))/\find aF "stuff"=some (.d (sd (eV w))):=by
 have m2:=(m.upd "chunks" (.list [sd w]):TM pat aB i (upd Z "chunks" (.d (.list [sd w])))).upd "stuff" (sd (eV w))
 refine il _ i (uE (ds:=[]) (af:=Z) ?_ rfl (tw hc m.na (lr (ay (v_var (by rw[ai,if_pos rfl])) aO) (FH hw) bo))) m2 ?_ (by rw[ai,if_pos rfl])
 ·refine ab (aU (ek (ay (v_var hc) aO) (on (ds:=[sd w]) rfl (Nat.succ_pos _))) aK rfl:pe KT Z (.bin .Sub (.bcall .len [.var "chunks"]) (.int 1))=some (.d (.int 0))) ?_;rfl
 ·rw[ai,if_neg (of_decide_eq_true rfl),ai,if_neg (of_decide_eq_true rfl)];exact hj
theorem DG{jE:Nat}{b:List Nat}(m:TM pat aB i Z)(hj:find Z "j"=some (.d (.int (jE:Int))))(hz:pat.length<=1000)(hN:1000 < N)(hjE:jE=i+1+(b.length+1))(bl:jE<=pat.length)
  (f6:(pat.drop i).take (jE - i)=33::b++[45]) (gE:45∉b):
  ∃aF i',ps KT N Z zO=some (.next aF)/\TM pat aB i' aF/\find aF "j"=some (.d (.int (jE:Int)))/\find aF "stuff"=some (.d (sd (eV (33::b++[45])))):=by
 have at_:∀t,t < b.length+2->pat[i+t]? =(33::b++[45])[t]? :=λt ht=>by
  rw[<- f6,List.getElem?_take,if_pos (by lia),List.getElem?_drop]
 have h33:pat[i]? =some 33:=by have:=at_ 0 (by lia);rwa [Nat.add_zero]at this
 have m1:=m.own []
 have m2:=m1.upd "k" (.int ((i+2:Nat):Int))
 have gX:find (upd (upd Z "chunks" (.own [])) "k" (.d (.int ((i+2:Nat):Int)))) "k"=some (.d (.int ((i+2:Nat):Int))):=by rw[ai,if_pos rfl]
 have hj2:find (upd (upd Z "chunks" (.own [])) "k" (.d (.int ((i+2:Nat):Int)))) "j"=some (.d (.int (jE:Int))):=by rw[ai,if_neg (by decide),ai,if_neg (by decide)];exact hj
 have hc2:find (upd (upd Z "chunks" (.own [])) "k" (.d (.int ((i+2:Nat):Int)))) "chunks"=some (.own []):=by rw[ai,if_neg (by decide),ai,if_pos rfl]
 have hite:pe KT (upd Z "chunks" (.own [])) (.ite (.cmp .Eq (.item (.var "pat") (.var "i")) (.str [33])) (.bin .Add (.var "i") (.int 2)) (.bin .Add (.var "i") (.int 1)))=some (.d (.int ((i+2:Nat):Int))):=
  v_ite (c:=true) (aS (cS (v_var m1.fpat) (v_var m1.fi) (item_str h33 (by lia))) bc (fQ 33 33)) (λ_=>aU (v_var m1.fi) aK (ru i)) λh=>nomatch h
 cases hb:b with
 | nil=>
  subst hb
  have hjE':jE=i+2:=hjE
  have hf:g9 pat 45 (i+2) jE=-1:=vR λt a c=>by lia
  have m3:=m2.upd "k" (.int (-1))
  generalize hG:upd (upd (upd Z "chunks" (.own [])) "k" (.d (.int ((i+2:Nat):Int)))) "k" (.d (.int (-1)))=dY at m3
  have gW:find dY "k"=some (.d (.int (-1))):=by rw[<- hG,ai,if_pos rfl]
  have hj3:find dY "j"=some (.d (.int (jE:Int))):=by rw[<- hG,ai,if_neg (by decide)];exact hj2
  have hc3:find dY "chunks"=some (.own []):=by rw[<- hG,ai,if_neg (by decide)];exact hc2
  have m4:=m3.upd "chunk" (sd [33,45])
  have hw:(pat.drop i).take (jE - i)=[33,45]:=f6
  have m5:=m4.own [sd [33,45]]
  refine cf (xA (N:=N) (w:=[33,45]) m5 (jE:=jE) (by rw[ai,if_neg (by decide),ai,if_neg (by decide)];exact hj3) (by rw[ai,if_pos rfl]) (by decide)) λaF i' q1 q2 q3 q4=>?_
  refine⟨aF,i',lW m.na (ba hite (qq (af:=dY) ?_ (ba (oF m3 hj3 hz hw) (jz (fw (x:=.d (sd [33,45])) (v_var (by rw[ai,if_pos rfl])) (o8 (by decide))) (kF (by rw[ai,if_neg (by decide)];exact hc3) (v_var (by rw[ai,if_pos rfl])) (by simp) bo) q1)))),q2,q3,q4⟩
  obtain⟨n,rfl⟩:∃n,N=n+1:=⟨N - 1,by lia⟩
  refine wk um (ba (uk m2 gX hj2) ?_)
  rw[hf,hG]
  exact jV (aS (v_var gW) aK rfl) (by rw[Ad rfl])
 | cons b0 b'=>
  have hbn:0 < b.length:=by rw[hb];simp
  have hf:g9 pat 45 (i+2) jE=((jE - 1:Nat):Int):=by
   refine Ca (by lia) (by lia) ?_ λt a c=>?_
   ·have:=at_ (b.length+1) (by lia)
    rw[show i+(b.length+1)=jE - 1 by lia]at this
    rw[this];simp
   ·have:=at_ (t - i) (by lia)
    rw[show i+(t - i)=t by lia]at this
    rw[this]
    obtain⟨u,hu⟩:∃u,t - i=u+1:=⟨t - i - 1,by lia⟩
    rw[hu]
    show(b++[45])[u]? ≠_
    rw[List.getElem?_append_left (by lia)]
    exact λe=>gE (List.mem_of_getElem? e)
  have hw1:(pat.drop i).take (jE - 1 - i)=33::b:=by
   have:(pat.drop i).take (jE - 1 - i)=((pat.drop i).take (jE - i)).take (jE - 1 - i):=by rw[List.take_take,Nat.min_eq_left (by lia)]
   rw[this,f6,show jE - 1 - i=(33::b).length by simp only[List.length_cons];lia]
   simp
  have m3:=m2.upd "k" (.int ((jE - 1:Nat):Int))
  generalize hG3:upd (upd (upd Z "chunks" (.own [])) "k" (.d (.int ((i+2:Nat):Int)))) "k" (.d (.int ((jE - 1:Nat):Int)))=dY at m3
  have gW:find dY "k"=some (.d (.int ((jE - 1:Nat):Int))):=by rw[<- hG3,ai,if_pos rfl]
  have hj3:find dY "j"=some (.d (.int (jE:Int))):=by rw[<- hG3,ai,if_neg (by decide)];exact hj2
  have hc3:find dY "chunks"=some (.own []):=by rw[<- hG3,ai,if_neg (by decide)];exact hc2
  have m4:=((m3.own [sd (33::b)]).nE jE).upd "k" (.int ((jE+2:Nat):Int))
  generalize hG4:upd (upd (upd dY "chunks" (.own [sd (33::b)])) "i" (.d (.int (jE:Int)))) "k" (.d (.int ((jE+2:Nat):Int)))=Γ4 at m4
  have hk4:find Γ4 "k"=some (.d (.int ((jE+2:Nat):Int))):=by rw[<- hG4,ai,if_pos rfl]
  have hj4:find Γ4 "j"=some (.d (.int (jE:Int))):=by rw[<- hG4,ai,if_neg (by decide),ai,if_neg (by decide),ai,if_neg (by decide)];exact hj3
  have hc4:find Γ4 "chunks"=some (.own [sd (33::b)]):=by rw[<- hG4,ai,if_neg (by decide),ai,if_neg (by decide),ai,if_pos rfl]
  have hf2:g9 pat 45 (jE+2) jE=-1:=vR λt a c=>by lia
  have m5:=m4.upd "k" (.int (-1))
  generalize hG5:upd Γ4 "k" (.d (.int (-1)))=Γ5 at m5
  have hk5:find Γ5 "k"=some (.d (.int (-1))):=by rw[<- hG5,ai,if_pos rfl]
  have hj5:find Γ5 "j"=some (.d (.int (jE:Int))):=by rw[<- hG5,ai,if_neg (by decide)];exact hj4
  have hc5:find Γ5 "chunks"=some (.own [sd (33::b)]):=by rw[<- hG5,ai,if_neg (by decide)];exact hc4
  have m6:=m5.upd "chunk" (sd [])
  have m7:=m6.own [sd (33::b++[45])]
  refine cf (xA (N:=N) (w:=33::b++[45]) m7 (jE:=jE) (by rw[ai,if_neg (by decide),ai,if_neg (by decide)];exact hj5) (by rw[ai,if_pos rfl]) (by simp;lia)) λaF i' q1 q2 q3 q4=>?_
  rw[<- hb]
  refine⟨aF,i',lW m.na (ba hite (qq (af:=Γ5) ?_ (ba (oF (w:=[]) m5 hj5 hz (by simp)) (d7 (fw (x:=.d (sd [])) (v_var (by rw[ai,if_pos rfl])) (o8 (by decide))) (fP (af:=upd (upd Γ5 "chunk" (.d (sd []))) "chunks" (.own [sd (33::b++[45])])) ?_ bo) q1)))),q2,q3,q4⟩
  ·obtain⟨n,rfl⟩:∃n,N=n+1+1:=⟨N - 2,by lia⟩
   refine wj (af:=Γ4) um (ba (uk m2 gX hj2) ?_) (wk um (ba (uk m4 hk4 hj4) ?_))
   ·rw[hf,hG3]
    refine jx (aS (v_var gW) aK (by rw[mK,decide_eq_false (by lia)])) ?_
    have hcw:pe KT dY (.cut (.var "pat") (.var "i") (.var "k"))=some (.d (sd (33::b))):=by
     refine v_cut (v_var m3.fpat) (fg rfl (v_var m3.fi)) (fg rfl (v_var gW)) ?_
     rw[kL (by lia),lH,hw1]
    refine kF hc3 hcw (by simp) (ba (d:=.int (jE:Int)) (aU (v_var (by rw[ai,if_neg (by decide)];exact gW)) aK (by rw[gv,show jE - 1+1=jE by lia])) (ba (d:=.int ((jE+2:Nat):Int)) (aU (v_var (by rw[ai,if_neg (by decide),ai,if_neg (by decide)];exact gW)) aK (by rw[MI,show jE - 1+3=jE+2 by lia])) ?_))
    show ps _ _ (upd (upd (upd dY "chunks" (.own ([]++[sd (33::b)]))) "i" _) "k" _) []=_
    rw[List.nil_append,hG4,bo]
   ·rw[hf2,hG5]
    exact jV (aS (v_var hk5) aK rfl) (by rw[Ad rfl])
  ·have h0:find (upd Γ5 "chunk" (.d (sd []))) "chunks"=some (.own [sd (33::b)]):=by rw[ai,if_neg (by decide),hc5]
   exact C9 (y:=S (33::b)) h0 rfl ⟨by simp[S];lia,Nat.le_of_ble_eq_true rfl⟩
end
end
section
theorem IY{x:List Nat}(h:x≠[]):bM x≠[]:=by
 cases x with
 | nil=>exact absurd rfl h
 | cons a r=>
  have e:bM (a::r)=(if cy.isSp a then[92,a]else[a])++bM r:=rfl
  refine ab e<|bq (λ_=>?_) λ_=>?_<;>simp
theorem ts{k:Nat}{z x:List Nat}(hz:z≠[])(h:x≠[]):bF k z x≠[]:=by
 cases x with
 | nil=>exact absurd rfl h
 | cons a r=>
  have e:bF k z (a::r)=(if a=k then z else[a])++bF k z r:=rfl
  refine ab e<|bq (λ_=>?_) λ_=>?_<;>simp[hz]
theorem xf{b:List Nat}(h:b≠[]):i0 b≠[]:=by
 refine IY<|bq (λ_=>?_) λ_=>?_
 ·exact ts (of_decide_eq_true rfl) (ts (of_decide_eq_true rfl) h)
 ·exact ts (of_decide_eq_true rfl) h
section
variable {N:Nat} {Z:Ctx} {pat:List Nat} {aB:List (List Nat)} {i:Nat}
theorem FA{b:List Nat}(m:TM pat aB i Z)(ok:Tk.Ok (.neg b))(f6:∀t,t < (Tk.src (.neg b)).length->pat[i+t]? =(Tk.src (.neg b))[t]?)(hz:pat.length<=1000)(hN:1000 < N)(hl:aB.length<=1000):
  ∃af,ps KT N Z lV=some (.next af)/\TM pat (aB++[Tk.out (.neg b)]) (i+(Tk.src (.neg b)).length) af:=by
 have aw:=ok
 have au:=aw.1
 have hbl:=aw.2.1
 have h93:=aw.2.2.1
 have h45:=aw.2.2.2
 have hsl:(Tk.src (.neg b)).length=b.length+3:=by simp[Tk.src]
 rw[hsl]at f6⊢
 have s0:pat[i]? =some 91:=by have:=f6 0 (Nat.succ_pos _);rwa [Nat.add_zero]at this
 have s1:pat[i+1]? =some 33:=f6 1 (Nat.le_add_left _ _)
 have sb:∀t,t < b.length->pat[i+2+t]? =b[t]? :=λt ht=>by
  have:=f6 (t+2) (by lia)
  rw[show i+(t+2)=i+2+t by lia]at this
  refine ab this ?_
  show((b++[93]))[t]? =_
  exact ab (List.getElem?_append_left ht) rfl
 have sE:pat[i+2+b.length]? =some 93:=by
  have:=f6 (b.length+2) (Nat.le_refl _)
  rw[show i+(b.length+2)=i+2+b.length by lia]at this
  refine ab this ?_
  show((b++[93]))[b.length]? =_
  simp
 have bl:i+2+b.length < pat.length:=by
  by_cases q:i+2+b.length < pat.length
  ·exact q
  ·rw[List.getElem?_eq_none (Nat.not_lt.mp ‹_›)]at sE;exact nS sE
 have hb0:0 < b.length:=by cases b with | nil=>exact absurd rfl au | cons _ _=>simp
 have e33:pat[i+1]=33:=by rw[List.getElem?_eq_getElem (by lia)]at s1;exact Option.some.inj s1
 refine ab (show i+(b.length+3)=i+2+b.length+1 by lia) ?_
 have seg:(pat.drop (i+1)).take (i+2+b.length - (i+1))=33::b:=by
  apply List.ext_getElem?
  intro t
  refine ab List.getElem?_take<|ab List.getElem?_drop ?_
  split
  ·rename_i ht
   cases t with
   | zero=>exact s1
   | succ t=>refine ab (show i+1+(t+1)=i+2+t by exact Eq.symm (Nat.succ_add_eq_add_succ _ _))<|ab (sb t (by lia)) ?_;rfl
  ·rename_i ht
   exact ab (List.getElem?_eq_none (by simp only[List.length_cons];lia)) rfl
 refine y3 (jE:=i+2+b.length) (j1:=i+2) (j2:=if pat[i+2]=93 then i+3 else i+2) m hz hN s0 (by lia) (by refine ab e33 ?_;rw[if_pos rfl]) (by lia) rfl (by split<;>lia) sE (λt a c e=>?_) λaf m' hj=>?_
 ·have h2:i+2<=t:=by split at a<;>lia
  have:=sb (t - (i+2)) (by lia)
  rw[show i+2+(t - (i+2))=t by exact Nat.add_sub_cancel' ‹_›,e]at this
  cases hu:t - (i+2)with
  | zero=>
   have:pat[i+2]=93:=by
    have:t=i+2:=by lia
    subst this
    rw[List.getElem?_eq_getElem (by lia)]at e;exact Option.some.inj e
   rw[if_pos this]at a;lia
  | succ u=>
   rw[hu]at this
   refine h93 (List.mem_of_getElem? (i:=u) ?_)
   refine ab List.getElem?_tail ?_;exact this.symm
 ·have m1:=m'.upd "stuff" (sd (33::b))
  have cz:find (upd af "stuff" (.d (sd (33::b)))) "stuff"=some (.d (sd (33::b))):=by rw[ai,if_pos rfl]
  have hj1:find (upd af "stuff" (.d (sd (33::b)))) "j"=some (.d (.int ((i+2+b.length:Nat):Int))):=by rw[ai,if_neg (by decide)];exact hj
  have hout:[91]++(94::i0 b)++[93]=Tk.out (.neg b):=rfl
  by_cases hd:45∈b
  ·have hbe:b=b.dropLast++[45]:=by
    have eY:=List.dropLast_concat_getLast au
    have:b.getLast au=45:=by
     rw[<- eY]at hd
     rcases List.mem_append.mp hd with h | h
     ·exact absurd h h45
     ·exact(List.mem_singleton.mp h).symm
    rw[this]at eY;exact eY.symm
   have hbl':b.length=b.dropLast.length+1:=by refine ab List.length_dropLast ?_;lia
   refine cf (DG (N:=N) (jE:=i+2+b.length) (b:=b.dropLast) m1 hj1 hz hN (by lia) (Nat.le_of_lt ‹_›) (by refine ab seg ?_;simpa using hbe) h45) λdY i' q1 q2 q3 q4=>?_
   rw[show 33::b.dropLast++[45]=33::b by rw[List.cons_append,<- hbe]]at q4
   have hy:bM (eV (33::b))=33::i0 b:=by
    unfold i0
    refine ab (if_pos hd) ?_;rfl
   have l1:(bF 92 [92,92] (33::b)).length<=2 * (33::b).length:=mL 92 [92,92] (by decide) _
   have l2:(eV (33::b)).length<=2 * (bF 92 [92,92] (33::b)).length:=mL 45 [92,45] (Nat.succ_pos _) _
   simp only[List.length_cons]at l1
   exact ah (xL (N:=N) q2 q3 q4 hy (xf au) (by lia) hl) λΓ4 r1 r2=>⟨Γ4,d7 (aS (v_var hj) (v_var m'.fn) (uM bl)) (ba (oF m' hj hz seg) (d7 (aS bc (v_var cz) (by rw[sV,decide_eq_true (List.mem_cons_of_mem _ hd)];rfl)) q1 r1)) bo,r2⟩
  ·have hy:bM (bF 92 [92,92] (33::b))=33::i0 b:=by
    unfold i0
    refine ab (if_neg hd) ?_;rfl
   have l1:(bF 92 [92,92] (33::b)).length<=2 * (33::b).length:=mL 92 [92,92] (by decide) _
   simp only[List.length_cons]at l1
   have m2:=m1.upd "stuff" (sd (bF 92 [92,92] (33::b)))
   refine ah (xL (N:=N) m2 (by rw[ai,if_neg (by decide)];exact hj1) (by rw[ai,if_pos rfl]) hy (xf au) (by lia) hl) λΓ4 r1 r2=>?_
   exact⟨Γ4,d7 (aS (v_var hj) (v_var m'.fn) (uM bl)) (ba (oF m' hj hz seg) (jz (aS bc (v_var cz) (by rw[sV,decide_eq_false (by simpa using hd)];rfl)) (lr (ay (v_var cz) aO) (yC (by decide) (by simp only[List.length_cons];exact Nat.lt_of_le_of_lt ‹_› (Nat.le_of_ble_eq_true rfl)) (by decide)) bo) r1)) bo,r2⟩
theorem HL{tk:Tk}(m:TM pat aB i Z)(ok:tk.Ok)(f6:∀t,t < tk.src.length->pat[i+t]? =tk.src[t]?)(hz:pat.length<=1000)(hN:1000 < N)(hl:aB.length<=1000):
  ∃af,ps KT N Z lV=some (.next af)/\TM pat (aB++[tk.out]) (i+tk.src.length) af:=by
 cases tk with
 | lit k=>exact FC m ok (f6 0 (by simp[Tk.src])) hz hl
 | cls k=>exact FD m ok (f6 0 (by simp[Tk.src])) (f6 1 (by simp[Tk.src])) (f6 2 (by simp[Tk.src])) hz hN hl
 | neg b=>exact FA m ok f6 hz hN hl
 | any=>exact step_any m (f6 0 (by simp[Tk.src])) hz hl
end
theorem Ch(toks:List Tk)(eX:∀t∈toks,t.Ok)(hz:(toks.flatMap Tk.src).length<=1000)(hl:toks.length<=100):
  ps KT 1001 [("pat",.d (sd (toks.flatMap Tk.src))),("STAR",.d .obj),("QUESTION_MARK",.d (sd [46]))] pK=some (.ret (.list ((toks.map Tk.out).map sd))):=by
 generalize hp:toks.flatMap Tk.src=pat at hz
 refine lW rfl (w' rfl (yG (d1:=.int 0) (d2:=.int (pat.length:Int)) aK (ek (ay (v_var (x:="pat") rfl) aO) (tH (Nat.le_trans ‹_› (Nat.le_add_left _ _)))) ?_))
 refine pR (λk Z=>TM pat ((toks.take k).map Tk.out) (((toks.take k).flatMap Tk.src).length) Z) toks.length (Nat.lt_of_le_of_lt ‹_› (Nat.le_of_ble_eq_true rfl)) ⟨rfl,rfl,rfl,rfl,rfl,rfl,rfl,rfl⟩ (λk Z hk m=>?_) (λZ m=>?_) λZ m=>?_
 ·have hJ:pat=(toks.take k).flatMap Tk.src++(toks[k].src++(toks.drop (k+1)).flatMap Tk.src):=by
   refine rB hp ?_
   conv=>lhs;rw[<- List.take_append_drop k toks]
   refine ab List.flatMap_append<|ab (List.drop_eq_getElem_cons hk) ?_;rw[List.flatMap_cons]
  have hpos:0 < toks[k].src.length:=by cases toks[k]<;>simp[Tk.src]
  have hi:((toks.take k).flatMap Tk.src).length < pat.length:=by
   have:=congrArg List.length hJ
   simp only[List.length_append]at this
   lia
  have hs:∀t,t < toks[k].src.length->pat[((toks.take k).flatMap Tk.src).length+t]? =toks[k].src[t]? :=λt ht=>by
   refine ab hJ<|ab (List.getElem?_append_right (Nat.le_add_right _ _)) ?_;rw[Nat.add_sub_cancel_left,List.getElem?_append_left ht]
  refine⟨aS (v_var m.fi) (v_var m.fn) (oK hi),?_⟩
  refine ah (HL (N:=1001) m (eX _ (List.getElem_mem hk)) hs hz (Nat.le_refl _) (by rw[List.length_map,List.length_take];lia)) λaf h1 h2=>aJ af h1<|ab List.take_add_one<|ab (List.getElem?_eq_getElem hk)<|ab List.map_append<|ab List.flatMap_append<|ab List.length_append ?_
  simpa using h2
 ·rw[List.take_length,hp]at m
  exact aS (v_var m.fi) (v_var m.fn) (Ah (Nat.lt_irrefl _))
 ·rw[List.take_length,hp]at m
  exact tA (aS (v_var m.fi) (v_var m.fn) (by rw[wN,beq_self_eq_true])) (qQ (v_var m.fres) rfl)
theorem vV:cV 69 (fD "_translate" "_translate" (aA 9) .none .none rL 68) (bu (aA 9)):=
 ⟨λP=>⟨_,rfl,rfl⟩,rfl,rfl,⟨68,rfl,by decide+kernel⟩,rfl,rfl,rfl,rfl,rfl⟩
theorem Bx(toks:List Tk)(eX:∀t∈toks,t.Ok)(hz:(toks.flatMap Tk.src).length<=1000)(hl:toks.length<=100):Fn 2 69 [sd (toks.flatMap Tk.src),.obj,sd [46]] (.list ((toks.map Tk.out).map sd)):=
 iG (n:=1) (K:=KT) 1001 pK vV (names:=["pat","STAR","QUESTION_MARK"]) (ny "pat" "STAR" "QUESTION_MARK") rfl (of_decide_eq_true rfl) (by decide+kernel) Bm (λc tz=>Mn c tz) (λc aa tz eo ef=>JK rfl tz (Nat.le_refl _) eo.sc ef.code (by refine ab ef.qual ?_;decide+kernel)) (Ch toks eX hz hl)
end
open Classical in
noncomputable def nR(f1:String)(d1:List D)(r1:D)(f2:String)(d2:List D)(r2:D):String->List D->Option D:=λf ds=>if f=f1/\ds=d1 then some r1 else if f=f2/\ds=d2 then some r2 else none
theorem Mc(f1:String)(d1:List D)(r1:D)(f2:String)(d2:List D)(r2:D):nR f1 d1 r1 f2 d2 r2 f1 d1=some r1:=if_pos ⟨rfl,rfl⟩
theorem Mb(f1:String)(d1:List D)(r1:D)(f2:String)(d2:List D)(r2:D)(h:f2≠f1):nR f1 d1 r1 f2 d2 r2 f2 d2=some r2:=by
 unfold nR
 refine ab (if_neg λq=>h q.1) ?_;rw[if_pos ⟨rfl,rfl⟩]
theorem KX{f1:String}{d1:List D}{r1:D}{f2:String}{d2:List D}{r2:D}{f:String}{ds:List D}{r:D}(h:nR f1 d1 r1 f2 d2 r2 f ds=some r):(f=f1/\ds=d1/\r=r1)∨(f=f2/\ds=d2/\r=r2):=by
 unfold nR at h
 split at h
 ·rename_i q;exact aC h<| .inl ⟨q.1,q.2,rfl⟩
 ·split at h
  ·rename_i q;exact aC h<| .inr ⟨q.1,q.2,rfl⟩
  ·exact nS h
noncomputable def gI(toks:List Tk):List Nat:=qg (toks.map Tk.out)
noncomputable def rX(toks:List Tk):aI:=⟨nR "_translate" [sd (toks.flatMap Tk.src),.obj,sd [46]] (.list ((toks.map Tk.out).map sd)) "_join_translated_parts" [.list ((toks.map Tk.out).map sd),.obj] (sd (gI toks)),λ_ _ _=>none,λ_ _ _=>none,λ_ _=>none⟩
theorem Le(toks:List Tk)(eX:∀t∈toks,t.Ok)(hz:(toks.flatMap Tk.src).length<=1000)(hl:toks.length<=100)(hj:(toks.map Tk.out).flatten.length<=10000)(c:Cx)(tz:c.tz):bQ c 2 (rX toks):=by
 refine⟨tz,λf ds r h=>?_,(λ_ _ _ _ h=>nomatch h),λ_ _ _ _ h=>nomatch h⟩
 rcases KX h with⟨rfl,rfl,rfl⟩ | ⟨rfl,rfl,rfl⟩
 ·exact pA 69 _ _ vV (ej (by decide+kernel)) (Bx toks eX hz hl)
 ·exact pA 76 _ _ z0 (ej (by decide+kernel)) ((IS (toks.map Tk.out) (Nat.le_trans (Nat.le_of_eq (List.length_map _)) ‹_›) hj).le (Nat.succ_pos _))
theorem CQ(toks:List Tk):ps (rX toks) 0 [("pat",.d (sd (toks.flatMap Tk.src)))] sj=some (.ret (sd (gI toks))):=by
 have hb:(rX toks).fn "_join_translated_parts" [.list ((toks.map Tk.out).map sd),.obj]=some (sd (gI toks)):=by
  exact Mb "_translate" [sd (toks.flatMap Tk.src),.obj,sd [46]] (.list ((toks.map Tk.out).map sd)) "_join_translated_parts" [.list ((toks.map Tk.out).map sd),.obj] (sd (gI toks)) (by exact of_decide_eq_true rfl:"_join_translated_parts"≠"_translate")
 refine ba (ek aO rfl) (ba (fc (ay (v_var rfl) (ay (v_var rfl) (ay bc aO))) rfl (Mc ..)) (jy (fc (ay (v_var rfl) (ay (v_var rfl) aO)) rfl hb)))
theorem wi:cV 50 (fD "translate" "translate" (aA 4) .none .none (.str "cpy313.fnmatch" 289) 49) (bu (aA 4)):=
 ⟨λP=>⟨_,rfl,rfl⟩,rfl,rfl,⟨49,rfl,by decide+kernel⟩,rfl,rfl,rfl,rfl,rfl⟩
theorem B'(toks:List Tk)(eX:∀t∈toks,t.Ok)(hz:(toks.flatMap Tk.src).length<=1000)(hl:toks.length<=100)(hj:(toks.map Tk.out).flatten.length<=10000):Fn 3 50 [sd (toks.flatMap Tk.src)] (sd (gI toks)):=
 iG (n:=2) (K:=rX toks) 0 sj wi (names:=["pat"]) (md "pat") rfl (of_decide_eq_true rfl) (by decide+kernel) Bz (λc tz=>Le toks eX hz hl hj c tz) (λ_ _ _ _ _=>gB) (CQ toks)
section
theorem wh{w:World}{A:Around}{s:Shared}{R:Result->Shared->Prop}{a:Addr}{o:Obj}{fd:FuncData}{body:List Stmt}{vals:List Value}{kw binds:List (Str×Value)}
  (hroom:A.depth < recursionLimit) (ho:s.heap.get? a=some o) (hdata:o.data=.func fd) (hlim:s.heap.NoLimit) (gg:s.heap.CodeRec fd.code fd.qualname)
  (hbody:fd.body=.stmts body) (hY:∀(Q:List (Str×Value)->Shared->Prop) (E:Value->Shared->Prop),Q binds s->wpAny (model pg w) A.in1 (bindArgs fd ⟨vals,kw⟩) Q E s) (hclo:fd.closure=[])
  (hkind:∀x∈binds,fd.scope.names.lookup x.1=some .local∨(fd.scope.names.lookup x.1=some .cell/\((cellsFrom (s.heap.objs.size+1) fd.scope.names []).lookup x.1).isSome=true))
  (fb:fd.scope.isCoroutine=false) (hgen:fd.scope.isGenerator=false) (hk:fd.scope.kind=.function)
  (h:∀aD,s.toks<=aD.toks->InCallC s (callEnvC fd s.heap.objs.size a).locals (bindL (callEnvC fd s.heap.objs.size a).kindOf binds λ_=>none) (callEnvC fd s.heap.objs.size a).cells
    (bindC (callEnvC fd s.heap.objs.size a).kindOf binds λ_=>none) aD->
   wpAny (model pg w) (A.deeper (callEnvC fd s.heap.objs.size a)) (execs body (callEnvC fd s.heap.objs.size a)) (λf s'=>R (.ok (.ret (match f with | .ret v=>v | _=>.none))) s')
    (λe s'=>wpAny (model pg w) (A.deeper (callEnvC fd s.heap.objs.size a)) (leaving (callEnvC fd s.heap.objs.size a) e) (λ_ cQ=>R (.error e) cQ) (λe' cQ=>R (.error e') cQ) s') aD):
  codeAny (model pg w) A (.call (.ref a) ⟨vals,kw⟩) R s:=by
 refine codeAny_call_function hroom ho hdata fb hgen hbody gg (hY _ _ ?_)
 refine ab hclo<|wpAny_with_toks (Nat.le_refl _) (wpAny_newFunctionEnv_cells hk hkind λaa he s' x tk=>?_)
 subst he
 exact⟨hlim.keeps x.toInCall.keep,codeAny_func (h s' tk x)⟩
noncomputable def ln(n:Nat)(f:Addr)(np:Nat)(kn:List Str)(args:List D)(r:D):Prop:=
 ∀(c:Cx) (A:Around) (s:Shared) (vs:List Value) (Q:Value->Shared->Prop) (E:Value->Shared->Prop),c.Ok->c.held=[]->c.tz->bh n A->c.h₀=s.heap->c.t₀=s.toks->(∀a,c.O a->a < s.heap.objs.size)->Bs c s->aq s.heap c.O vs args->
  (∀v s',ag s'.heap c.O v r->Step c s s'->Q v s')->wpAny (model pg c.w) A (call (.ref f) (vs.take np) (kn.zip (vs.drop np))) Q E s
theorem KJ{n np:Nat}{kn:List Str}{fa:Addr}{fd:FuncData}{body:List Stmt}{names:List String}{ds:List D}{r:D}(F:cV fa fd body)
  (hY:∀(w:World) (A:Around) (s:Shared) (Q:List (Str×Value)->Shared->Prop) (E:Value->Shared->Prop) (vs:List Value),gh w s.heap->names.length=vs.length->Q ((names.map Str.ofString).zip vs) s->wpAny (model pg w) A (bindArgs fd ⟨vs.take np,kn.zip (vs.drop np)⟩) Q E s) (hl:names.length=ds.length) (gd:names.Nodup)
  (hp:∀x∈names,fd.scope.names.lookup (Str.ofString x)=some .local∨fd.scope.names.lookup (Str.ofString x)=some .cell)
  (h:∀(c:Cx) (aa:Env),c.tz->bI c fd.scope aa->q8 fd aa->bS c n aa (names.zip (ds.map .d)) body λo=>o=.ret r):ln (n+1) fa np kn ds r:=by
 intro c A s vs Q E ok hh tz rm h0 ht0 hO b rs k
 refine ah (F.at_ c.w.params) λo ho hd=>ah F.code λcd gg eJ=>?_
 have hlv:names.length=vs.length:=hl.trans rs.length.symm
 refine wpAny_call<|wh (binds:=(names.map Str.ofString).zip vs) (by have:=rm.d;refine(?_:A.depth < 1000);lia) (b.sta.k _ _ ho) hd b.sta.nolimit (gg▸codeRec_of (b.sta.cd _ eJ)) F.body (λQ E q=>hY c.w _ s Q E vs b.sta hlv q) F.clo ?_ F.co F.gen F.kind ?_
 ·intro x hx
  refine ah (List.mem_map.mp ((List.of_mem_zip hx).1:x.1∈names.map Str.ofString)) λy hy e=>rB e ?_
  rcases hp y hy with q | q
  ·exact .inl q
  ·exact .inr ⟨q,cellsFrom_some _ _ _ _ q⟩
 ·intro aD eC x
  refine bR (qj (names:=names) ok hh eC h0 hO b rs hlv gd F.glob F.bins F.kind hp x) λI eo=>(h c _ tz eo ⟨rfl,rfl,rfl,rfl⟩).run _ aD _ _ _ (⟨rm.h,by have:=rm.d;refine(?_:A.depth+1+10 * n<=900);lia,by have:=rm.u;refine(?_:A.units+3+100 * n<=9000);lia⟩:bh n (A.deeper (callEnvC fd s.heap.objs.size fa))) I λf s' o ho cb=>?_
  subst ho
  cases f<;>first | exact cb.elim | skip
  exact k _ _ cb.2 ⟨h0▸cb.1.kp,λ_=>cb.1.j,cb.1.os.trans b.os.symm,λ_=>cb.1.gens,ht0▸cb.1.tk⟩
theorem zK{n np:Nat}{kn:List Str}{K:aI}{fa:Addr}{fd:FuncData}{body:List Stmt}{names:List String}{ds:List D}{r:D}(N:Nat)(ir:List St)(F:cV fa fd body)
  (hY:∀(w:World) (A:Around) (s:Shared) (Q:List (Str×Value)->Shared->Prop) (E:Value->Shared->Prop) (vs:List Value),gh w s.heap->names.length=vs.length->Q ((names.map Str.ofString).zip vs) s->wpAny (model pg w) A (bindArgs fd ⟨vs.take np,kn.zip (vs.drop np)⟩) Q E s) (hl:names.length=ds.length) (gd:names.Nodup)
  (hp:∀x∈names,fd.scope.names.lookup (Str.ofString x)=some .local∨fd.scope.names.lookup (Str.ofString x)=some .cell)
  (hc:dz fd.scope ir body=true) (hK:∀c:Cx,c.tz->bQ c n K) (hS:∀(c:Cx) (aa:Env),c.tz->bI c fd.scope aa->q8 fd aa->iQ c n K fd.scope aa) (he:ps K N (names.zip (ds.map .d)) ir=some (.ret r)):ln (n+1) fa np kn ds r:=
 KJ F hY hl gd hp λc aa tz eo ef=>kX n K N ir fd.scope body aa c _ _ (hK c tz) (hS c aa tz eo ef) F.kind eo hc he
theorem ln.fn{n np:Nat}{f:Addr}{args:List D}{r:D}(h:ln n f np [] args r)(hn:args.length=np):Fn n f args r:=λc A s vs Q E ok hh tz rm h0 ht0 hO b rs k=>by
 have:=h c A s vs Q E ok hh tz rm h0 ht0 hO b rs k
 rwa [List.take_of_length_le (by exact ab rs.length<|Nat.le_of_eq ‹_›),List.zip_nil_left]at this
section
variable {c:Cx} {n:Nat} {aa:Env} {Z:Ctx}
theorem G3{A:Around}{s:Shared}{ow:Ow}{fa:Addr}{np:Nat}{kn:List Str}{vs:List Value}{ds:List D}{r:D}{Q:Value->Shared->Prop}{E:Value->Shared->Prop}(rm:bh n A)(I:Inv c aa Z ow s)(rs:aq s.heap (av c ow) vs ds)(hf:ln n fa np kn ds r)(tz:c.tz)
  (k:∀v s',ag s'.heap (av c ow) v r->Step c s s'->Q v s'):wpAny (model pg c.w) A (call (.ref fa) (vs.take np) (kn.zip (vs.drop np))) Q E s:=by
 let c':Cx:={c with h₀:=s.heap,O:=av c ow,pin:=λ_=>none,held:=[],t₀:=s.toks}
 have cb:c'.Ok:=⟨I.ok.vd,I.ok.vsa,I.ok.vseq,I.ok.vco,I.ok.jin,I.ok.jk,I.ok.tab,I.ok.tabJ,I.ok.tabK,λa h=>Nat.lt_of_lt_of_le (I.ok.sn a h) I.bs.size,(λ_ _ h=>nomatch h),λtz=>Nat.lt_of_lt_of_le (I.ok.tp tz) I.bs.tk⟩
 refine hf c' A s vs Q E cb rfl tz rm rfl rfl (λa h=>?_) (⟨.refl _ _,(λ_ _ h=>nomatch h),I.bs.sta,I.bs.j,I.bs.os,I.bs.gens,Nat.le_refl _⟩:Bs c' s) rs λv s' rv st=>k v s' rv ⟨st.kp,st.j,st.os,st.gens,st.tk⟩
 rcases h with h | ⟨x,h⟩
 ·exact Nat.lt_of_lt_of_le (I.oin _ h) I.bs.size
 ·refine bB (I.frm.onew x a h) λ_ _ ar=>cY ar λxs j e=>?_
  exact Heap.lt_size e
theorem Ci{M:Model}{A:Around}{E:Value->Shared->Prop}{s:Shared}{x:Str}{p pos:Pos}{args:List Expr}{kws:List Keyword}{Q:Value->Shared->Prop}
  (h:wpAny M A (eval (.Name x p) aa) (λf aD=>wpAny M A (callWith pos f [] (backTo pos (starEach args aa)) (backToKw pos (keywordEach kws aa))) Q E aD) E s):
  wpAny M A (eval (.Call (.Name x p) args kws pos) aa) Q E s:=wpAny_bind h
theorem EW{x y:Str}{p pos q p2:Pos}{kc:Nat}{a:Expr}{fa:Addr}{fd:FuncData}{body:List Stmt}{d r:D}(F:cV fa fd body)(g:dr x (.ref fa))(hk:aa.kindOf x=some .globalImplicit)(ha:Ev c n aa Z a (.d d))(hs:bP a=false)(hf:ln n fa 1 [y] [d,.bool false] r)(tz:c.tz)
  (hx:(x==("__debug__":Str))=false:=by decide+kernel):Ev c n aa Z (.Call (.Name x p) [a] [⟨some y,.Constant (.bool false) kc q,p2⟩] pos) (.d r):=by
 refine⟨?_⟩
 intro A s Q E ow rm I k
 refine ah (F.at_ c.w.params) λo h1 h2=>Ci (iU I g hk hx (callWith_function_kw (o:=o) (fd:=fd) (evalArgs_kw2 rfl (args_cons (ha.run A s _ E ow rm I λv s1 rv al=>args_nil (kwAll_cons ?_)) (eD hs)) (eD hs))))
 refine wpAny_Constant_bool (kwAll_nil ?_)
 have I1:=I.step al
 refine⟨⟨I1.bs.sta.k _ _ h1,h2⟩,?_⟩
 exact G3 (vs:=[v,.bool false]) rm I1 (.cons rv (.cons (.bool false) .nil)) hf tz λv s' rv st=>k v s' rv (al.trans st)
end
end
noncomputable def M5(f:String)(ds:List D):Option D:=(dC ds).bind λd=>(if f="_buffer" then(pw.m d).map λb=>.bytes b.toArray else none).or (if f="_truth" then(uF.m d).bind λ(t:Bool)=>if t=false then some (.bool false)else none else none)
noncomputable def KB:aI:=⟨M5,λ_ _ _=>none,λ_ _ _=>none,λ_ _=>none⟩
theorem Mr(c:Cx)(tz:c.tz):bQ c 1 KB:=by
 refine⟨tz,λf ds r h=>bE h λd h0 h=>eE h0▸ca h (λh=>iO h λq h=>?_) λh=>iO h λq h=>?_,(λ_ _ _ _ h=>nomatch h),λ_ _ _ _ h=>nomatch h⟩
 ·exact mE h λb h1=>q▸pw.ok h1▸⟨83,_,_,yu,ej (by decide+kernel),ER⟩
 ·refine bE h λ(t:Bool) h1 h=>iE h λe=>?_
  exact ab q<|ab ((uF.ok h1).symm.trans (congrArg D.bool e))<|⟨90,_,_,zb,ej (by decide+kernel),GK⟩
theorem Fc(a b:Nat):Builtin.bitOr (a:Int) (b:Int)=((a||| b:Nat):Int):=by
 have n1:∀n:Nat,Builtin.bitNot (n:Int)=-(n:Int) - 1:=λn=>by unfold Builtin.bitNot;lia
 have hn:∀n:Nat,¬(0<=(-(n:Int) - 1)):=λn=>by lia
 have n2:∀n:Nat,Builtin.bitNot (-(n:Int) - 1)=(n:Int):=λn=>by unfold Builtin.bitNot;lia
 unfold Builtin.bitOr
 rw[n1,n1]
 unfold Builtin.bitAnd
 refine ab (decide_eq_false (hn a))<|ab (decide_eq_false (hn b)) ?_
 dsimp only
 rw[n2,n2,Int.toNat_natCast,Int.toNat_natCast,n1,n2]
theorem HZ{m b:Nat}(hb:b < 256):m * 256||| b=m * 256+b:=by
 have:=Nat.shiftLeft_add_eq_or_of_lt (i:=8) (b:=b) (by omega) m
 rw[Nat.shiftLeft_eq]at this
 simpa using this.symm
noncomputable def cP(i:Nat):Nat:=(jS.toList.getD i 0).toNat
noncomputable abbrev GB(fE:List UInt8)(out:List D)(lb lc bv:Nat):Ctx:=[("data",.d (.bytes fE.toArray)),("newline",.d (.bool false)),("bin_data",.d (.bytes fE.toArray)),("out",.own out),("leftbits",.d (.int (lb:Int))),("leftchar",.d (.int (lc:Int))),("b",.d (.int (bv:Int)))]
noncomputable def kQ:List St:=match pM.getD 5 .bad with
 | .forS _ _ _ b=>b
 | _=>[]
noncomputable def nz:List St:=qC (kQ.getD 2 .bad)
theorem K'{fE:List UInt8}{out:List D}{m lc bv N:Nat}(hm:m<=10)(hlc:lc < 65536)(ho:out.length<=100):ps KB N (GB fE out (m+6) lc bv) nz=some (.next (GB fE (out++[.int (cP ((lc / 2 ^ m) % 64))]) m lc bv)):=by
 have hsub:cX .Sub (.d (.int ((m+6:Nat):Int))) (.d (.int 6))=some (.int (m:Int)):=by rw[qy];congr 2;lia
 have hshr:cX .RShift (.d (.int (lc:Int))) (.d (.int (m:Int)))=some (.int ((lc / 2 ^ m:Nat):Int)):=by
  have e0:binI .RShift (lc:Int) (m:Int)=some ((lc:Int).fdiv (2 ^ (m:Int).toNat)):=by
   simp only[binI]
   exact ab (if_pos (show 0<=(m:Int) by lia)) rfl
  refine(?_:Option.map D.int (binI .RShift (lc:Int) (m:Int))=_)
  refine ab e0 ?_;rw[Int.toNat_natCast]
  refine ab (by rfl:((2:Int) ^ m)=((2 ^ m:Nat):Int))<|ab (Int.fdiv_eq_ediv_of_nonneg _ (Int.natCast_nonneg _)) ?_;rfl
 have hand:cX .BitAnd (.d (.int ((lc / 2 ^ m:Nat):Int))) (.d (.int 63))=some (.int ((lc / 2 ^ m % 64:Nat):Int)):=by
  show Option.map D.int (some _)=_
  rw[bitAnd_m6];rfl
 have ed:hW (.d (.bytes jS)) (.d (.int ((lc / 2 ^ m % 64:Nat):Int)))=some (.int (cP (lc / 2 ^ m % 64))):=by
  have:=Do (x:=jS.toList) (k:=lc / 2 ^ m % 64) (by refine ab (by decide+kernel:jS.toList.length=64) ?_;lia) (by decide)
  exact this
 exact kF rfl (cS (nc rfl) (aU (aU (v_var rfl) (aU (v_var rfl) aK hsub) hshr) aK hand) ed) (by lia) (ba (aU (v_var rfl) aK hsub) bo)
theorem tU{fE:List UInt8}{out:List D}{m lc bv N K:Nat}(hm:m < 6)(hN:0 < K):dK (λZ=>pt KB Z (.cmp .GtE (.var "leftbits") (.int 6))) (λZ=>ps KB N Z nz) K (GB fE out m lc bv)=some (.next (GB fE out m lc bv)):=by
 obtain⟨k,rfl⟩:∃k,K=k+1:=⟨K - 1,by lia⟩
 rw[dK];simp only[(aS (v_var rfl) aK (by rw[sP,decide_eq_false (by lia)]):pt KB (GB fE out m lc bv) (.cmp .GtE (.var "leftbits") (.int 6))=some false)]
theorem qN{fE:List UInt8}{out:List D}{m lc bv N K:Nat}(hm:m<=10)(hlc:lc < 65536)(ho:out.length<=100){o:Option az}(h:dK (λZ=>pt KB Z (.cmp .GtE (.var "leftbits") (.int 6))) (λZ=>ps KB N Z nz) K (GB fE (out++[.int (cP ((lc / 2 ^ m) % 64))]) m lc bv)=o):
  dK (λZ=>pt KB Z (.cmp .GtE (.var "leftbits") (.int 6))) (λZ=>ps KB N Z nz) (K+1) (GB fE out (m+6) lc bv)=o:=
 wj (aS (v_var rfl) aK (by rw[sP,decide_eq_true (by lia)])) (K' hm hlc ho) h
theorem ue{fE:List UInt8}{out:List D}{lb lc bv N:Nat}{o:az}(hlc:lc < 65536)(hb:bv < 256)(h:dK (λZ=>pt KB Z (.cmp .GtE (.var "leftbits") (.int 6))) (λZ=>ps KB N Z nz) N (GB fE out (lb+8) ((lc * 256+bv) % 65536) bv)=some o):
  ps KB N (GB fE out lb lc bv) kQ=some o:=by
 have hshl:cX .LShift (.d (.int (lc:Int))) (.d (.int 8))=some (.int ((lc * 256:Nat):Int)):=by
  have e0:binI .LShift (lc:Int) 8=some ((lc:Int) * 2 ^ (8:Int).toNat):=by
   simp only[binI]
   exact ab (if_pos ⟨by decide,by decide,by rw[Int.natAbs_natCast];lia⟩) rfl
  refine(?_:Option.map D.int (binI .LShift (lc:Int) 8)=_)
  refine ab e0 ?_;rfl
 have hor:cX .BitOr (.d (.int ((lc * 256:Nat):Int))) (.d (.int (bv:Int)))=some (.int ((lc * 256+bv:Nat):Int)):=by
  show Option.map D.int (some (Builtin.bitOr _ _))=_
  rw[Fc,HZ hb];rfl
 have hand:cX .BitAnd (.d (.int ((lc * 256+bv:Nat):Int))) (.d (.int 65535))=some (.int (((lc * 256+bv) % 65536:Nat):Int)):=by
  show Option.map D.int (some _)=_
  rw[bitAnd_m16];rfl
 refine(?_:ps KB N (GB fE out lb lc bv) [.assign "leftchar" (.bin .BitAnd (.bin .BitOr (.bin .LShift (.var "leftchar") (.int 8)) (.var "b")) (.int 65535)),.assign "leftbits" (.bin .Add (.var "leftbits") (.int 8)),.whileS (.cmp .GtE (.var "leftbits") (.int 6)) nz]=_)
 refine ba (aU (aU (aU (v_var rfl) aK hshl) (v_var rfl) hor) aK hand) (ba (d:=.int ((lb+8:Nat):Int)) (aU (v_var rfl) aK rfl) ?_)
 refine(?_:(match dK _ _ N (GB fE out (lb+8) ((lc * 256+bv) % 65536) bv)with | some (.next af)=>ps KB N af [] | o=>o)=_)
 refine ab h ?_
 cases o<;>simp[ps]
noncomputable def gO(i:Nat):UInt8:=jS.toList.getD i 0
theorem Mk{a b:Nat}(ha:a < 256)(hb:b < 256):a * 256+b < 65536:=Nat.lt_of_lt_of_le (Nat.add_lt_add_left hb _) (Nat.le_trans (Nat.le_of_eq (Nat.succ_mul a 256).symm) (Nat.mul_le_mul_right 256 ha))
theorem Mi(x y z:UInt8):ps KB 9 [("data",.d (.bytes [x,y,z].toArray)),("newline",.d (.bool false))] pM=
  some (.ret (.bytes ([x.toNat / 4 % 64,(x.toNat * 256+y.toNat) / 16 % 64,(x.toNat * 65536+y.toNat * 256+z.toNat) / 64 % 64,(x.toNat * 65536+y.toNat * 256+z.toNat) % 64].map gO).toArray)):=by
 have hx:=x.toNat_lt
 have hy:=y.toNat_lt
 have hz:=z.toNat_lt
 refine ba (fc (ay (v_var rfl) aO) rfl rfl) (ba (fc (ay (v_var rfl) aO) rfl rfl) (lW rfl (ba aK (ba aK ?_))))
 generalize eN:(0 * 256+x.toNat) % 65536=ga
 have h1:ga < 65536:=eN▸Nat.mod_lt _ (by decide)
 generalize eY:(ga * 256+y.toNat) % 65536=ik
 have h2:ik < 65536:=eY▸Nat.mod_lt _ (by decide)
 generalize hl3:(ik * 256+z.toNat) % 65536=iL
 have h3:iL < 65536:=hl3▸Nat.mod_lt _ (by decide)
 have t1:ps KB 9 (GB [x,y,z] [] 0 0 x.toNat) kQ=some (.next (GB [x,y,z] [.int (cP (ga / 2 ^ 2 % 64))] 2 ga x.toNat)):=
  ue (by decide) hx (by rw[eN];exact qN (m:=2) (K:=8) (by decide) h1 (by simp) (tU (by decide) (by decide)))
 have t2:ps KB 9 (GB [x,y,z] [.int (cP (ga / 2 ^ 2 % 64))] 2 ga y.toNat) kQ=some (.next (GB [x,y,z] [.int (cP (ga / 2 ^ 2 % 64)),.int (cP (ik / 2 ^ 4 % 64))] 4 ik y.toNat)):=
  ue h1 hy (by rw[eY];exact qN (m:=4) (K:=8) (by decide) h2 (by simp) (tU (by decide) (by decide)))
 have t3:ps KB 9 (GB [x,y,z] [.int (cP (ga / 2 ^ 2 % 64)),.int (cP (ik / 2 ^ 4 % 64))] 4 ik z.toNat) kQ=some (.next (GB [x,y,z] [.int (cP (ga / 2 ^ 2 % 64)),.int (cP (ik / 2 ^ 4 % 64)),.int (cP (iL / 2 ^ 6 % 64)),.int (cP (iL / 2 ^ 0 % 64))] 0 iL z.toNat)):=
  ue h2 hz (by rw[hl3];exact qN (m:=6) (K:=8) (by decide) h3 (by simp) (qN (m:=0) (K:=7) (by decide) h3 (by simp) (tU (by decide) (by decide))))
 refine uE (ds:=[.int x.toNat,.int y.toNat,.int z.toNat]) (af:=GB [x,y,z] [.int (cP (ga / 2 ^ 2 % 64)),.int (cP (ik / 2 ^ 4 % 64)),.int (cP (iL / 2 ^ 6 % 64)),.int (cP (iL / 2 ^ 0 % 64))] 0 iL z.toNat) ?_ ?_ ?_
 ·rfl
 ·skip
  show(match ps KB 9 (GB [x,y,z] [] 0 0 x.toNat) kQ with | some (.next af)=>_ | some (.cont af)=>_ | some (.brk af)=>_ | some (.ret d)=>_ | none=>_)=_
  rw[t1]
  dsimp only
  show(match ps KB 9 (GB [x,y,z] [.int (cP (ga / 2 ^ 2 % 64))] 2 ga y.toNat) kQ with | some (.next af)=>_ | some (.cont af)=>_ | some (.brk af)=>_ | some (.ret d)=>_ | none=>_)=_
  rw[t2]
  dsimp only
  show(match ps KB 9 (GB [x,y,z] [.int (cP (ga / 2 ^ 2 % 64)),.int (cP (ik / 2 ^ 4 % 64))] 4 ik z.toNat) kQ with | some (.next af)=>_ | some (.cont af)=>_ | some (.brk af)=>_ | some (.ret d)=>_ | none=>_)=_
  rw[t3]
  rfl
 ·refine d7 (aS (v_var rfl) aK rfl) (jx (aS (v_var rfl) aK rfl) bo) (jx (fw (v_var rfl) rfl) (jy (ek (ay (v_var rfl) aO) ?_)))
  have hb:∀i,cP i < 256:=λi=>(jS.toList.getD i 0).toNat_lt
  have hu:∀i,(cP i).toUInt8=gO i:=λi=>by exact UInt8.ofNat_toNat
  show(match(some [((cP (ga / 2 ^ 2 % 64):Nat):Int),((cP (ik / 2 ^ 4 % 64):Nat):Int),((cP (iL / 2 ^ 6 % 64):Nat):Int),((cP (iL / 2 ^ 0 % 64):Nat):Int)]:Option (List Int))with | some l=>if l.all (λn:Int=>decide (0<=n)&&decide (n < 256))/\l.length<=1000000 then some (D.bytes (l.map λn:Int=>n.toNat.toUInt8).toArray)else none | none=>none)=_
  have ie:∀i:Nat,(decide (0<=((cP i:Nat):Int))&&decide (((cP i:Nat):Int) < 256))=true:=λi=>by
   rw[decide_eq_true (by omega),decide_eq_true (by have:=hb i;omega)];rfl
  dsimp only
  rw[if_pos ⟨by simp only[List.all_cons,List.all_nil,ie];rfl,by simp⟩]
  simp only[List.map_cons,List.map_nil,Int.toNat_natCast,hu]
  have e1:ga=x.toNat:=eN.symm.trans ((congrArg (· % 65536) ((congrArg (·+x.toNat) (Nat.zero_mul 256)).trans (Nat.zero_add _))).trans (Nat.mod_eq_of_lt (Nat.lt_trans hx (Nat.le_of_ble_eq_true rfl))))
  have e2:ik=x.toNat * 256+y.toNat:=eY.symm.trans ((congrArg (λn=>(n * 256+y.toNat) % 65536) e1).trans (Nat.mod_eq_of_lt (Mk hx hy)))
  have e3:iL=(x.toNat * 65536+y.toNat * 256+z.toNat) % 65536:=hl3.symm.trans ((congrArg (λn=>(n * 256+z.toNat) % 65536) e2).trans<|congrArg (λn=>(n+z.toNat) % 65536) ((Nat.add_mul _ _ _).trans (congrArg (·+_) (Nat.mul_assoc _ 256 256))))
  have q1:ga / 2 ^ 2 % 64=x.toNat / 4 % 64:=congrArg (· / 4 % 64) e1
  have q2:ik / 2 ^ 4 % 64=(x.toNat * 256+y.toNat) / 16 % 64:=congrArg (· / 16 % 64) e2
  have q3:iL / 2 ^ 6 % 64=(x.toNat * 65536+y.toNat * 256+z.toNat) / 64 % 64:=(congrArg (· / 64 % 64) e3).trans<|(congrArg (· % 64) (Nat.mod_mul_right_div_self _ 64 1024)).trans (Nat.mod_mod_of_dvd _ (Nat.dvd_of_mod_eq_zero rfl))
  have q4:iL / 2 ^ 0 % 64=(x.toNat * 65536+y.toNat * 256+z.toNat) % 64:=(congrArg (· / 1 % 64) e3).trans<|(congrArg (· % 64) (Nat.div_one _)).trans (Nat.mod_mod_of_dvd _ (Nat.dvd_of_mod_eq_zero rfl))
  rw[q1,q2,q3,q4]
theorem Au:cV 98 (fD "b2a_base64" "b2a_base64" (aA 15) .none (.ref 91) mx 97) (bu (aA 15)):=
 ⟨λP=>⟨_,rfl,rfl⟩,rfl,rfl,⟨97,rfl,by decide+kernel⟩,rfl,rfl,rfl,rfl,rfl⟩
noncomputable def lS(x y z:UInt8):List UInt8:=[x.toNat / 4 % 64,(x.toNat * 256+y.toNat) / 16 % 64,(x.toNat * 65536+y.toNat * 256+z.toNat) / 64 % 64,(x.toNat * 65536+y.toNat * 256+z.toNat) % 64].map gO
theorem G'(a b:Value):bindArgs (fD "b2a_base64" "b2a_base64" (aA 15) .none (.ref 91) mx 97) ⟨[a],[(Str.ofString "newline",b)]⟩=pure [(Str.ofString "data",a),(Str.ofString "newline",b)]:=by kernel_rfl
theorem KN(x y z:UInt8):ln 2 98 1 [Str.ofString "newline"] [.bytes [x,y,z].toArray,.bool false] (.bytes (lS x y z).toArray):=
 zK (n:=1) (K:=KB) 9 pM Au (names:=["data","newline"]) (λw A s Q E vs S hl q=>by
  refine cY (qD hl) λa b am=>?_;subst am
  refine(?_:wpAny _ _ (bindArgs _ ⟨[a],[(Str.ofString "newline",b)]⟩) _ _ _)
  rw[G']
  exact wpAny_pure q) rfl (by decide) (by decide+kernel) Jg (λc tz=>Mr c tz) (λ_ _ _ _ _=>gB) (Mi x y z)
section
theorem Iu:findCls [] (.type "bytes") (.type "type") (Str.ofString "maketrans")=some (.val (.builtin "bytes.maketrans")):=by rfl
theorem Nu:typeOf (.builtin "bytes.maketrans")=pure (.type "builtin_function_or_method"):=by show builtinType _=_;rw[builtinType_eq_fast];kernel_rfl
theorem GY:entryFor table "bytes.maketrans"=some Builtin.«bytes.maketrans»:=entryFor_of_tree (by kernel_rfl)
theorem FX:plainId "bytes.maketrans"=true:=by decide+kernel
theorem Nq(a b:Value):checkBuiltinCall "bytes.maketrans" ⟨[a,b],[]⟩=pure ():=by kernel_rfl
theorem xP:Slot "bytes" "translate" "bytes.translate":=
 .of (owner:="bytes") (n:="translate") (by kernel_rfl) (by decide+kernel) (by decide+kernel) (by decide+kernel)
  (by first | exact .inl (by decide+kernel) | exact .inr (by decide+kernel)) (by kernel_rfl)
theorem Fj:typeOf (.builtin "bytes.translate")=pure (.type "method_descriptor"):=by show builtinType _=_;rw[builtinType_eq_fast];kernel_rfl
theorem EZ:entryFor table "bytes.translate"=some Builtin.«bytes.translate»:=entryFor_of_tree (by kernel_rfl)
theorem Hd(a b:Value):argsOk "bytes.translate" ⟨[a,b],[]⟩:=by kernel_rfl
theorem KC(h:Heap):Frag.In [] h:=λ_ _ e=>nomatch e
section
variable {prog:Program} {w:World} {A:Around} {E:Value->Shared->Prop} {s:Shared}
theorem B4{pl:Sem Bool}{Q:Value×List Value->Shared->Prop}(h:Q (.builtin "bytes.maketrans",[]) {s with toks:=s.toks+1}):
  wpAny (model prog w) A (getMethod (.type "bytes") (Str.ofString "maketrans") pl) Q E s:=by
 have X:=KC s.heap
 have hstub:opaqueClassAbove (.type "bytes")=pure none:=by unfold opaqueClassAbove;dsimp only;rfl
 have L0:Looks (model prog w) s.heap (typeOf (.type "bytes")) (.type "type"):=Looks.of_pure (by first | rfl | kernel_rfl:typeOf (.type "bytes")=pure (.type "type"))
 refine wpAny_bind (wpAny_bind (L0.here ((looks_findIn X type_tga).here ?_)))
 dsimp only
 refine wpAny_bind (wpAny_mono (Q:=λv=>Q (v,[])) (E:=E) ?_ (λ_ _ z=>wpAny_pure z) λ_ _ z=>z)
 refine cls_open X (Looks.of_pure hstub:Looks (model prog w) s.heap (opaqueClassAbove (.type "bytes")) none) L0 type_tga (looks_hook X (r:=none) (by rfl)) (by show subIn [] _ _=_;rfl) Iu<|wpAny_pure<|(?_:wpAny _ _ (handedOut (.builtin "bytes.maketrans")) _ _ _)
 have e:handedOut (.builtin "bytes.maketrans")=pure (.builtin "bytes.maketrans"):=by kernel_rfl
 exact wpAny_pure h
theorem LY{M:Model}{A:Around}{E:Value->Shared->Prop}{s:Shared}{α:Type}{b:Prop}[Decidable b]{m n:Sem α}{Q:α->Shared->Prop}(hb:¬b)(h:wpAny M A n Q E s):wpAny M A (if b then m else n) Q E s:=by exact ab (if_neg hb) h
noncomputable def j4(f t:Array UInt8):Array UInt8:=(f.toList.zip t.toList).foldl (λt (p:UInt8×UInt8)=>t.setIfInBounds p.1.toNat p.2) ((Array.range 256).map (·.toUInt8))
theorem Ji{f t:Array UInt8}{tf tt:Tok}{Q:Value->Shared->Prop}(hs:f.size=t.size)(h:Q (.bytes (j4 f t) s.toks) {s with toks:=s.toks+1}):wpAny (model prog w) A (call (.builtin "bytes.maketrans") [.bytes f tf,.bytes t tt]) Q E s:=by
 refine wpAny_call (codeAny_call_builtin FX GY ?_)
 refine wpAny_pure<|wpAny_bind (wpAny_of_eq (a:=()) (by kernel_rfl) ?_)
 refine wpAny_bind (wpAny_of_eq (a:=()) (by kernel_rfl) ?_)
 refine wpAny_bind (wpAny_of_eq (a:=f) (by kernel_rfl) ?_)
 refine wpAny_bind (wpAny_of_eq (a:=t) (by kernel_rfl) ?_)
 refine KFB.if_not (by exact ab hs<|bne_self_eq_false _) ?_
 have cj:(j4 f t).size<=sizeLine:=by
  have:∀(l:List (UInt8×UInt8)) (a:Array UInt8),(l.foldl (λt (p:UInt8×UInt8)=>t.setIfInBounds p.1.toNat p.2) a).size=a.size:=by
   intro l
   induction l with
   | nil=>intro a;rfl
   | cons p l ih=>intro a;refine ab List.foldl_cons ?_;rw[ih,Array.size_setIfInBounds]
  unfold j4
  rw[this,Array.size_map,Array.size_range,sizeLine_eq];exact Nat.le_add_left _ _
 exact wpAny_bind (wpAny_mkBytes (wpAny_pure h) cj)
theorem v9(a b:UInt8):j4 #[43,47] #[a,b]=(((Array.range 256).map (·.toUInt8)).setIfInBounds 43 a).setIfInBounds 47 b:=rfl
noncomputable def eK(a b c:UInt8):UInt8:=if c=43 then a else if c=47 then b else c
theorem Dk(a b c:UInt8):(j4 #[43,47] #[a,b]).getD c.toNat c=eK a b c:=by
 rw[v9]
 have hc:=c.toNat_lt
 have e43:c.toNat=43↔c=43:=⟨λh=>UInt8.toNat_inj.mp (by refine ab h ?_;rfl),λh=>by refine ab h ?_;rfl⟩
 have e47:c.toNat=47↔c=47:=⟨λh=>UInt8.toNat_inj.mp (by refine ab h ?_;rfl),λh=>by refine ab h ?_;rfl⟩
 refine ab Array.getD_eq_getD_getElem?<|ab Array.getElem?_setIfInBounds<|ab Array.getElem?_setIfInBounds ?_
 unfold eK
 by_cases h47:47=c.toNat
 ·have h:=e47.mp h47.symm
  refine ab h ?_
  simp
 ·refine ab (if_neg h47) ?_
  by_cases h43:43=c.toNat
  ·have h:=e43.mp h43.symm
   refine ab h ?_
   simp
  ·refine ab (if_neg h43)<|ab (if_neg λh=>h43 (e43.mpr h).symm)<|ab (if_neg λh=>h47 (e47.mpr h).symm)<|ab Array.getElem?_map<|ab Array.getElem?_range<|ab (if_pos (by omega)) ?_
   simp
theorem B5(a b:UInt8):(j4 #[43,47] #[a,b]).size=256:=by rw[v9];simp
theorem G5{x:Array UInt8}{a b:UInt8}{tx tt:Tok}{Q:Value->Shared->Prop}(hx:x.size<=1000)(h:∀t' s',fI s s'->Q (.bytes (x.map (eK a b)) t') s'):wpAny (model prog w) A (call (.builtin "bytes.translate") [.bytes x tx,.bytes (j4 #[43,47] #[a,b]) tt]) Q E s:=by
 refine wpAny_call_entry xP (typeIs_bytes _ _ _) EZ ?_ (Hd _ _)
 unfold Builtin.«bytes.translate» Builtin.Bytes.translateM
 refine LY (of_decide_eq_true rfl)<|KFB.if_not (by rfl)<|KFB.if_not (by rfl)<|wpAny_bind ?_
 generalize hT:j4 #[43,47] #[a,b]=T
 refine wpAny_of_eq (a:=T) (by kernel_rfl)<|KFB.if_not (c:=T.size !=256) (by refine ab (hT▸B5 a b:T.size=256) ?_;rfl) ?_
 refine wpAny_bind (wpAny_pure ?_)
 refine wpAny_bind (wpAny_pure ?_)
 refine wpAny_bind (wpAny_of_eq (a:=x) (by kernel_rfl) ?_)
 have hflt:x.filter (λc=>!(#[]:Array UInt8).contains c)=x:=by
  rw[Array.filter_eq_self]
  intro a _
  simp
 refine ab hflt ?_
 have hmap:x.map (λc=>T.getD c.toNat c)=x.map (eK a b):=by
  apply Array.map_congr_left
  intro c _
  exact rB hT<|Dk a b c
 dsimp only
 refine ab hmap ?_
 cases hb:(x.map (eK a b)==x)with
 | true=>
  have e:=eq_of_beq hb
  refine j9 (by rfl) (wpAny_bind (wpAny_rule (wpAny_bind (wpAny_of_eq (a:=.bytes x tx) (by kernel_rfl) (wpAny_pure ⟨_,rfl,?_⟩)))))
  have:=h tx s (fI.refl s)
  rwa [e]at this
 | false=>
  refine KFB.if_not (by rfl) (wpAny_bind (wpAny_mkBytes (wpAny_pure ⟨_,rfl,h _ _ ⟨λ_ _ e=>e,Nat.le_refl _,rfl,rfl,Nat.le_succ _⟩⟩) ?_))
  exact ab Array.size_map<|ab sizeLine_eq<|Nat.le_trans ‹_› (Nat.le_add_left _ _)
end
section
variable {c:Cx} {n:Nat} {aa:Env} {Z:Ctx}
theorem Me{p q ap pos:Pos}{kc:Nat}{a:Expr}{x y:UInt8}{A:Around}{s:Shared}{Q:Value->Shared->Prop}{E:Value->Shared->Prop}{ow:Ow}(rm:bh n A)(I:Inv c aa Z ow s)(hk:aa.kindOf "bytes"=some .globalImplicit)(h1:Ev c n aa Z a (.d (.bytes #[x,y])))(hs:bP a=false)(i7:(ap.endLine==pos.line)=true)
  (k:∀t s',Step c s s'->Q (.bytes (j4 #[43,47] #[x,y]) t) s'):wpAny (model pg c.w) A (eval (.Call (.Attribute (.Name "bytes" p) "maketrans" ap) [.Constant (.bytes [43,47]) kc q,a] [] pos) aa) Q E s:=by
 have fA:kT [.Constant (.bytes [43,47]) kc q,a]:=λe he=>by
  rcases List.mem_cons.mp he with rfl | he
  ·rfl
  ·rcases List.mem_cons.mp he with rfl | he
   ·exact hs
   ·cases he
 have hbase:attributeBase (.Name "bytes" p) "maketrans" aa (eval (.Name "bytes" p) aa)=eval (.Name "bytes" p) aa:=rfl
 have hform:methodCallForm ([Expr.Constant (.bytes [43,47]) kc q,a].length+([]:List Keyword).length) (backTo pos (starEach [.Constant (.bytes [43,47]) kc q,a] aa)) (backToKw pos (keywordEach [] aa))=true:=oY fA (by rfl)
 have hpos:methodCallPos true (.Name "bytes" p) aa ap pos=pure pos:=by dsimp only[methodCallPos];simp[i7]
 refine wpAny_bind (iU I wH hk (by decide+kernel) ?_)
 refine wpAny_bind (wpAny_standAt ?_)
 dsimp only[methodCall]
 refine ab hform<|wpAny_bind (wpAny_holding (B4 ?_))
 have f8:Step c s {s with toks:=s.toks+1}:=.tok I.ok _
 have I0:=I.step f8
 refine wpAny_bind (wpAny_of_eq hpos (Calls.callWith_builtin (jq fA) (gi (jq fA) ?_)))
 refine args_cons (yf.run (Z:=Z) (n:=n) A {s with toks:=s.toks+1} _ E ow rm I0 λv s1 rv al=>args_cons (h1.run A s1 _ E ow rm (I0.step al) λv2 s2 rv2 aG=>args_nil ?_) (eD hs)) (eD rfl)
 refine ag.j' rv λt=>ag.j' rv2 λt2=>?_
 exact Ji rfl (k _ _ (((f8.trans al).trans aG).trans (.tok I.ok _)))
theorem EX{o a:Expr}{p q ap ap2 pos pos2:Pos}{kc:Nat}{z:Array UInt8}{x y:UInt8}(hk:aa.kindOf "bytes"=some .globalImplicit)(h0:Ev c n aa Z o (.d (.bytes z)))(hz:z.size<=1000)(h1:Ev c n aa Z a (.d (.bytes #[x,y])))(hs:bP a=false)(ho:jY o=true)(i7:(ap.endLine==pos.line)=true)(hline2:(ap2.endLine==pos2.line)=true):
  Ev c n aa Z (.Call (.Attribute o "translate" ap) [.Call (.Attribute (.Name "bytes" p) "maketrans" ap2) [.Constant (.bytes [43,47]) kc q,a] [] pos2] [] pos) (.d (.bytes (z.map (eK x y)))):=by
 refine⟨?_⟩
 intro A s Q E ow rm I k
 refine wpAny_Call_method_late (trees:=backTo pos (starEach [.Call (.Attribute (.Name "bytes" p) "maketrans" ap2) [.Constant (.bytes [43,47]) kc q,a] [] pos2] aa)) (oE ho) (by rfl) i7 rfl (h0.run A s _ E ow rm I λov s1 ro al=>?_)
 refine ag.j' ro λt=>li ("bytes") ("bytes.translate") FB.plainAttrs_bytes xP Fj (typeIs_bytes _ _ _) (λb e=>nomatch e) (Calls.callWith_builtin rfl (gi rfl (args_cons (Me rm (I.step al) hk h1 hs hline2 λt2 s2 aG=>args_nil ?_) rfl)))
 exact G5 hz λt' s' g=>k _ _ (.bytes _ _) ((al.trans aG).trans (g.step I.ok))
noncomputable def rJ(x y z a b:UInt8):SP->List LV->Option D
 | .b2a,ls=>(dC ls).bind λl=>(gA l).bind λw=>if w=[x,y,z]then some (.bytes (lS x y z).toArray)else none
 | .btrans,ls=>(rc ls).bind λp=>(gA p.1).bind λw=>(gA p.2).bind λv=>if v=[a,b]/\w.length<=1000 then some (.bytes (w.map (eK a b)).toArray)else none
 | .resub,_=>none
 | .gjoin,_=>none
 | .repl _ _,_=>none
theorem JL{K:aI}{sc:Scope}{aa:Env}{x y z a b:UInt8}(hK:K.sp=rJ x y z a b)(tz:c.tz)(hn:2<=n)(hsc:aa.scope=sc):iQ c n K sc aa:=by
 intro k ls r hr c' xt Z e xs iq aV eg
 replace hr:=hK▸hr
 cases k with
 | b2a=>
  refine bE hr λl h0 hr=>bE hr λw h1 hr=>iE hr λq=>?_
  have h0:=eE h0
  subst h0 q
  revert aV eg
  exact o3 iq λs aV eg=>EW (x:=Str.ofString "b2a_base64") Au (ej (by decide+kernel)) (uL hsc s.1.2.2) (kO h1▸eg 0 (Nat.succ_pos 0) (Nat.succ_pos 0)) (n1 s.2.1.1.2) (λc A s vs Q E ok hh tz rm=>KN x y z c A s vs Q E ok hh tz (rm.less hn)) (xt.eI.tz▸tz:c'.tz)
 | btrans=>
  refine bE hr λp h0 hr=>bE hr λw h1 hr=>bE hr λv h3 hr=>iE hr λq=>?_
  have h0:=tV h0
  subst h0
  revert aV eg
  refine o3 iq λs aV eg=>a2 s.1.1.1.2 λc6 _=>?_
  have h6:=eg 1 (Nat.lt_succ_self 1) (Nat.lt_succ_self 1)
  exact ab (List.map_toArray.symm:(w.map (eK a b)).toArray=w.toArray.map (eK a b))<|EX (uL hsc s.1.2.1.1.1.1.1.2.2) (kO h1▸eg 0 (Nat.succ_pos _) (Nat.succ_pos _)) q.2 ((kO h3).trans (congrArg (λl=>LV.d (.bytes l.toArray)) q.1)▸h6) (n1 s.1.2.1.1.1.2.1.2.1.2) c6 s.2 s.1.2.1.1.2
 | resub=>exact nS hr
 | gjoin=>exact nS hr
 | repl _ _=>exact nS hr
end
end
noncomputable def AG:FuncData:=fD "b64encode" "b64encode" (aA 17) (.ref 99) .none (.str "cpy313.base64" 561) 105
theorem As:cV 106 AG (bu (aA 17)):=
 ⟨λP=>⟨_,rfl,rfl⟩,rfl,rfl,⟨105,rfl,by decide+kernel⟩,rfl,rfl,rfl,rfl,rfl⟩
theorem K8{w:World}{A:Around}{s:Shared}{Q:List (Str×Value)->Shared->Prop}{E:Value->Shared->Prop}{a b:Value}(S:gh w s.heap)(h:Q [(Str.ofString "s",a),(Str.ofString "altchars",b)] s):wpAny (model pg w) A (bindArgs AG ⟨[a,b],[]⟩) Q E s:=by
 unfold bindArgs
 refine wpAny_bind (wpAny_pure ?_)
 refine wpAny_bind (wpAny_seqItems (S.k 99 _ (by rfl)) rfl ?_)
 exact wpAny_of_eq (a:=[(Str.ofString "s",a),(Str.ofString "altchars",b)]) (by kernel_rfl) h
noncomputable def vA(x y z a b:UInt8):aI:=⟨λ_ _=>none,λ_ _ _=>none,λ_ _ _=>none,rJ x y z a b⟩
theorem Li(x y z a b:UInt8)(n:Nat)(c:Cx)(tz:c.tz):bQ c n (vA x y z a b):=⟨tz,(λ_ _ _ h=>nomatch h),(λ_ _ _ _ h=>nomatch h),λ_ _ _ _ h=>nomatch h⟩
noncomputable def kK(x y z a b:UInt8):List UInt8:=(lS x y z).map (eK a b)
theorem Lw{x y z a b:UInt8}{l:LV}(h:gA l=some [x,y,z]):rJ x y z a b .b2a [l]=some (.bytes (lS x y z).toArray):=fB h (if_pos rfl)
theorem Lv{x y z a b:UInt8}{l m:LV}{w:List UInt8}(h:gA l=some w)(h2:gA m=some [a,b])(hw:w.length<=1000):rJ x y z a b .btrans [l,m]=some (.bytes (w.map (eK a b)).toArray):=fB h (fB h2 (if_pos ⟨rfl,hw⟩))
theorem Mh(x y z a b:UInt8):ps (vA x y z a b) 0 [("s",.d (.bytes [x,y,z].toArray)),("altchars",.d (.bytes [a,b].toArray))] pQ=some (.ret (.bytes (kK x y z a b).toArray)):=by
 unfold pQ
 have e1:=Lw (x:=x) (y:=y) (z:=z) (a:=a) (b:=b) (m8 [x,y,z])
 have e2:=Lv (x:=x) (y:=y) (z:=z) (m8 (lS x y z)) (m8 [a,b]) (Nat.le_of_ble_eq_true rfl:4<=1000)
 refine lr (ay (v_var rfl) aO) e1 (jV (aS (v_var rfl) ui rfl) ?_)
 exact ab (tA (aS (ek (ay (v_var rfl) aO) (r:=.int 2) rfl) aK rfl) (JS (ay (v_var rfl) (ay (v_var rfl) aO)) e2)) rfl
theorem KL(x y z a b:UInt8):Fn 3 106 [.bytes [x,y,z].toArray,.bytes [a,b].toArray] (.bytes (kK x y z a b).toArray):=
 ln.fn (np:=2) (zK (n:=2) (K:=vA x y z a b) 0 pQ As (names:=["s","altchars"]) (λw A s Q E vs S hl q=>by
  refine cY (qD hl) λu v am=>?_;subst am
  exact K8 S q) rfl (of_decide_eq_true rfl) (by decide+kernel) BC (λc tz=>Li x y z a b 2 c tz) (λc aa tz eo ef=>JL rfl tz (Nat.le_refl _) eo.sc) (Mh x y z a b)) rfl
noncomputable def AR{α:Type}:List α->Option (α×α)
 | [a,b]=>some (a,b)
 | _=>none
noncomputable def vf{α:Type}:List α->Option (α×α×α)
 | [a,b,c]=>some (a,b,c)
 | _=>none
theorem LG{α:Type}{l:List α}{a b:α}(h:AR l=some (a,b)):l=[a,b]:=by
 refine cY (u9 h) λx y am=>?_;subst am
 cases h;rfl
theorem LF{α:Type}{l:List α}{a b c:α}(h:vf l=some (a,b,c)):l=[a,b,c]:=by
 cases l with | nil=>cases h | cons x l=>
 refine cY (u9 (F:=λl=>vf (x::l)) h) λy z am=>?_;subst am
 cases h;rfl
noncomputable def rU:String->List D->Option D
 | f,[.bytes o,.bytes t]=>(vf o.toList).bind λ(x,y,z)=>(AR t.toList).bind λ(a,b)=>if f="b64encode" then some (.bytes (kK x y z a b).toArray)else none
 | _,_=>none
theorem KQ{f:String}{ds:List D}{r:D}(h:rU f ds=some r):∃x y z a b,f="b64encode"/\ds=[.bytes [x,y,z].toArray,.bytes [a,b].toArray]/\r=.bytes (kK x y z a b).toArray:=by
 cases ds with | nil=>cases h | cons d1 ds=>
 obtain⟨o,rfl⟩:∃o,d1=.bytes o:=by cases d1 with | bytes x=>exact⟨_,rfl⟩ | _=>exact nS h
 cases ds with | nil=>cases h | cons d2 ds=>
 obtain⟨t,rfl⟩:∃t,d2=.bytes t:=by cases d2 with | bytes x=>exact⟨_,rfl⟩ | _=>exact nS h
 cases ds with | cons _ _=>cases h | nil=>
 refine bE h λaw ho h=>?_;obtain⟨x,y,z⟩:=aw
 refine bE h λaw ht h=>?_;obtain⟨a,b⟩:=aw
 have bd:=ki h;clear h
 have hf:=bd.1
 have h:=bd.2;clear bd
 refine aC h<|MY x y z a b hf ?_ rfl
 have e1:o=[x,y,z].toArray:=by refine rB (LF ho) ?_;rw[Array.toArray_toList]
 have e2:t=[a,b].toArray:=by refine rB (LG ht) ?_;rw[Array.toArray_toList]
 refine ab e1 ?_;rw[e2]
noncomputable def KS:aI:=⟨rU,gR,λ_ _ _=>none,λ_ _=>none⟩
theorem Mo(c:Cx)(tz:c.tz):bQ c 3 KS:=by
 refine⟨tz,λf ds r h=>?_,(λ_ _ _ _ h _ _=>ox h),λ_ _ _ _ h=>nomatch h⟩
 refine MS (KQ h) λx y z a b ob5 ob6 ob7=>ab ob5<|ab ob6<|ab ob7 ?_
 exact pA 106 _ _ As (ej (by decide+kernel)) (KL x y z a b)
noncomputable def dn(a b:UInt8)(f:Nat):Nat:=(eK a b (gO f)).toNat
noncomputable def numOf(row:List Nat):Nat:=row.getD 0 0 * 262144+row.getD 1 0 * 4096+row.getD 2 0 * 64+row.getD 3 0
noncomputable def bN(row:List Nat):Prop:=row.length<=4/\∀f∈row,f < 64
theorem jw{row:List Nat}(h:bN row)(i:Nat):row.getD i 0 < 64:=by
 refine ab List.getD_eq_getElem?_getD ?_
 cases e:row[i]? with
 | none=>simp
 | some f=>exact h.2 f (List.mem_of_getElem? e)
theorem Ih{row:List Nat}(h:row.length<=4):((List.range row.length).map λk:Nat=>((row.getD k 0:Nat):Int) * 64 ^ (3 - k)).sum=(numOf row:Int):=by
 match row,h with
 | [],_=>rfl
 | [a],_=>simp[numOf,List.range_succ]
 | [a,b],_=>simp[numOf,List.range_succ]
 | [a,b,c],_=>simp[numOf,List.range_succ];lia
 | [a,b,c,d],_=>simp[numOf,List.range_succ];lia
 | _::_::_::_::_::_,h=>simp at h
noncomputable def ur(row:List Nat):List UInt8:=[(numOf row / 65536).toUInt8,(numOf row / 256 % 256).toUInt8,(numOf row % 256).toUInt8]
theorem zC{row:List Nat}(h:bN row):numOf row < 16777216:=by
 have h0:=jw h 0
 have h1:=jw h 1
 have h2:=jw h 2
 have h3:=jw h 3
 unfold numOf;lia
theorem Jr{row:List Nat}(h:bN row):lS (numOf row / 65536).toUInt8 (numOf row / 256 % 256).toUInt8 (numOf row % 256).toUInt8=[row.getD 0 0,row.getD 1 0,row.getD 2 0,row.getD 3 0].map gO:=by
 have h1:=jw h 1
 have h2:=jw h 2
 have h3:=jw h 3
 have hn:=zC h
 have tu:∀n:Nat,n < 256->n.toUInt8.toNat=n:=λn hn=>by
  show n % 256=n
  omega
 unfold lS
 refine ab (tu _ (by omega))<|ab (tu _ (by omega))<|ab (tu _ (by omega)) ?_
 have e:numOf row=row.getD 0 0 * 262144+row.getD 1 0 * 4096+row.getD 2 0 * 64+row.getD 3 0:=rfl
 have q1:numOf row / 65536 / 4 % 64=row.getD 0 0:=by omega
 have q2:(numOf row / 65536 * 256+numOf row / 256 % 256) / 16 % 64=row.getD 1 0:=by omega
 have q3:(numOf row / 65536 * 65536+numOf row / 256 % 256 * 256+numOf row % 256) / 64 % 64=row.getD 2 0:=by omega
 refine ab q1<|ab q2 ?_;rw[q3,(by omega:(numOf row / 65536 * 65536+numOf row / 256 % 256 * 256+numOf row % 256) % 64=row.getD 3 0)]
theorem Fu{row:List Nat}(h:row.length<=4)(g:Nat->Nat):([row.getD 0 0,row.getD 1 0,row.getD 2 0,row.getD 3 0].map g).take row.length=row.map g:=by
 match row,h with
 | [],_=>rfl
 | [a],_=>rfl
 | [a,b],_=>rfl
 | [a,b,c],_=>rfl
 | [a,b,c,d],_=>rfl
 | _::_::_::_::_::_,h=>simp at h
theorem HN(f:Nat):(gO f).toNat < 128:=by
 by_cases hf:f < 64
 ·have:∀f < 64,(gO f).toNat < 128:=by decide+kernel
  exact this f hf
 ·unfold gO
  refine ab List.getD_eq_getElem?_getD ?_;rw[List.getElem?_eq_none]
  ·exact Nat.succ_pos _
  ·skip
   exact ab (by decide+kernel:jS.toList.length=64)<|Nat.not_lt.mp ‹_›
theorem pW{a b:UInt8}(ha:a.toNat < 128)(hb:b.toNat < 128)(f:Nat):dn a b f < 128:=by
 delta dn eK
 refine bq (λ_=>?_) λ_=>?_
 ·exact ha
 ·refine bq (λ_=>?_) λ_=>?_
  ·exact hb
  ·exact HN f
noncomputable def mR(a b:UInt8)(row:List Nat):D:=.list (row.map λf=>sd [dn a b f])
theorem Jl{row:List Nat}{a b:UInt8}(h:bN row)(ha:a.toNat < 128)(hb:b.toNat < 128):ps KS 0 [("row",.d (aj row)),("other",.d (.bytes [a,b].toArray))] sk=some (.ret (mR a b row)):=by
 have hl:=h.1
 have hn:=zC h
 refine ba (d:=.int (numOf row:Int)) ?_ (ba (d:=.bytes (ur row).toArray) ?_ (jy ?_))
 ·refine ek (ay (gH (List.range row.length) (λk:Nat=>.int (k:Int)) (λk:Nat=>.int (((row.getD k 0:Nat):Int) * 64 ^ (3 - k))) (oC (j5 (v_var rfl) (by lia)) (by lia)) (cs:=[("row",aj row)]) rfl (by rw[List.length_range];lia) λk hk=>?_) aO) ?_
  ·have hk':k < row.length:=List.mem_range.mp hk
   have hd:(row.map λf:Nat=>D.int (f:Int))[k]? =some (.int ((row.getD k 0:Nat):Int)):=by
    rw[List.getElem?_map,List.getElem?_eq_getElem hk',List.getD_eq_getElem?_getD,List.getElem?_eq_getElem hk'];rfl
   have hp:=y5 (a:=64) (b:=3 - (k:Int)) (by lia) (by lia) (by decide)
   have e:(3 - (k:Int)).toNat=3 - k:=by lia
   rw[e]at hp
   refine aU (cS (v_var rfl) (v_var rfl) (item_list (ds:=row.map λf:Nat=>D.int (f:Int)) rfl hd (by rw[List.length_map];lia))) (aU aK (aU aK (v_var rfl) (qy _ _)) hp) (Jn ?_)
   have:3 - k=0∨3 - k=1∨3 - k=2∨3 - k=3:=by lia
   rcases this with e | e | e | e<;>rw[e]<;>decide
  ·show Option.map _ (iC _)=_
   have:iC (.d (.list ((List.range row.length).map λk:Nat=>D.int (((row.getD k 0:Nat):Int) * 64 ^ (3 - k)))))=some ((List.range row.length).map λk:Nat=>((row.getD k 0:Nat):Int) * 64 ^ (3 - k)):=by
    unfold iC
    rw[oy,Option.bind_some,n9]
   rw[this,Option.map_some,Ih hl]
 ·have e1:cX .FloorDiv (.d (.int (numOf row:Int))) (.d (.int 65536))=some (.int ((numOf row / 65536:Nat):Int)):=by
   rw[qA (by decide) (by decide),Int.fdiv_eq_ediv_of_nonneg _ (by decide)];rfl
  have e2:cX .FloorDiv (.d (.int (numOf row:Int))) (.d (.int 256))=some (.int ((numOf row / 256:Nat):Int)):=by
   rw[qA (by decide) (by decide),Int.fdiv_eq_ediv_of_nonneg _ (by decide)];rfl
  have e3:∀m:Nat,cX .Mod (.d (.int (m:Int))) (.d (.int 256))=some (.int ((m % 256:Nat):Int)):=λm=>by
   rw[qz (by decide),Int.fmod_eq_emod_of_nonneg _ (by decide)];rfl
  refine ek (ay (fO (ay (aU (v_var rfl) aK e1) (ay (aU (aU (v_var rfl) aK e2) aK (e3 _)) (ay (aU (v_var rfl) aK (e3 _)) aO))) rfl (by simp)) aO) ?_
  show(match(some [((numOf row / 65536:Nat):Int),((numOf row / 256 % 256:Nat):Int),((numOf row % 256:Nat):Int)]:Option (List Int))with | some l=>if l.all (λn:Int=>decide (0<=n)&&decide (n < 256))/\l.length<=1000000 then some (D.bytes (l.map λn:Int=>n.toNat.toUInt8).toArray)else none | none=>none)=_
  have ie:∀i:Nat,i < 256->(decide (0<=(i:Int))&&decide ((i:Int) < 256))=true:=λi hi=>by
   rw[decide_eq_true (by lia),decide_eq_true (by lia)];rfl
  dsimp only
  rw[if_pos ⟨by rw[List.all_cons,List.all_cons,List.all_cons,List.all_nil,ie _ (by lia),ie _ (by lia),ie _ (by lia)];rfl,by simp⟩]
  rfl
 ·have hcall:rU "b64encode" [.bytes (ur row).toArray,.bytes [a,b].toArray]=some (.bytes (kK (numOf row / 65536).toUInt8 (numOf row / 256 % 256).toUInt8 (numOf row % 256).toUInt8 a b).toArray):=by
   unfold rU ur
   rfl
  have hs:kK (numOf row / 65536).toUInt8 (numOf row / 256 % 256).toUInt8 (numOf row % 256).toUInt8 a b=[row.getD 0 0,row.getD 1 0,row.getD 2 0,row.getD 3 0].map λf=>eK a b (gO f):=by
   unfold kK
   rw[Jr h,List.map_map];rfl
  have hdec:gR .decode (.d (.bytes (kK (numOf row / 65536).toUInt8 (numOf row / 256 % 256).toUInt8 (numOf row % 256).toUInt8 a b).toArray)) [.d (sd [97,115,99,105,105])]=some (sd ([row.getD 0 0,row.getD 1 0,row.getD 2 0,row.getD 3 0].map (dn a b))):=by
   rw[hs]
   have:ft .decode (.d (.bytes ([row.getD 0 0,row.getD 1 0,row.getD 2 0,row.getD 3 0].map λf=>eK a b (gO f)).toArray)) [.d (sd [97,115,99,105,105])]=some (sd ([row.getD 0 0,row.getD 1 0,row.getD 2 0,row.getD 3 0].map (dn a b))):=by
    have ie:([row.getD 0 0,row.getD 1 0,row.getD 2 0,row.getD 3 0].map λf=>eK a b (gO f)).all (λx=>decide (x.toNat < 128))=true:=by
     simp only[List.map_cons,List.map_nil,List.all_cons,List.all_nil,Bool.and_true,Bool.and_eq_true,decide_eq_true_eq]
     exact⟨pW ha hb _,pW ha hb _,pW ha hb _,pW ha hb _⟩
    rw[vU]
    simp only[m8,da,Option.bind_some]
    have hcond:True/\([row.getD 0 0,row.getD 1 0,row.getD 2 0,row.getD 3 0].map λf=>eK a b (gO f))≠[]/\([row.getD 0 0,row.getD 1 0,row.getD 2 0,row.getD 3 0].map λf=>eK a b (gO f)).all (λx=>decide (x.toNat < 128))=true/\([row.getD 0 0,row.getD 1 0,row.getD 2 0,row.getD 3 0].map λf=>eK a b (gO f)).length<=1000:=⟨trivial,by simp,ie,by simp⟩
    first | (rw[if_pos hcond];rfl) | (rw[if_pos ⟨rfl,hcond.2⟩];rfl) | (rw[if_pos hcond]) | (rw[if_pos ⟨rfl,hcond.2⟩])
   exact mT this
  refine ek (ay (v_cut (jv (fc (ay (v_var rfl) (ay (v_var rfl) aO)) rfl hcall) (ay bc aO) hdec) oI (fg rfl (j5 (v_var rfl) (by lia))) (by rw[kL (by simp),qm,Fu hl])) aO) ?_
  rw[DM,da,Option.bind_some]
  rw[if_pos (by rw[List.length_map];lia),List.map_map];rfl
theorem zd:cV 185 (fD "_law_signs" "_law_signs" (aA 30) .none .none eM 184) (bu (aA 30)):=
 ⟨λP=>⟨_,rfl,rfl⟩,rfl,rfl,⟨184,rfl,by decide+kernel⟩,rfl,rfl,rfl,rfl,rfl⟩
theorem GM{row:List Nat}{a b:UInt8}(h:bN row)(ha:a.toNat < 128)(hb:b.toNat < 128):Fn 4 185 [aj row,.bytes [a,b].toArray] (mR a b row):=
 iG (n:=3) (K:=KS) 0 sk zd (names:=["row","other"]) (qX "row" "other") rfl (of_decide_eq_true rfl) (by decide+kernel) BA (λc tz=>Mo c tz) (λ_ _ _ _ _=>gB) (Jl h ha hb)
noncomputable abbrev bk(ae:List (List Nat)):D:=.list (ae.map aj)
noncomputable def dy(bj row:List Nat):Bool:=row==bj.take row.length
noncomputable abbrev GD(bj:List Nat)(ae aR:List (List Nat)):Ctx:=[("figures",.d (aj bj)),("rows",.d (bk ae)),("fronts",.d (bk aR))]
theorem yk{K:aI}{Z:Ctx}{bj r:List Nat}{x:String}(h1:find Z x=some (.d (aj r)))(h2:find Z "figures"=some (.d (aj bj)))(hr:r.length<=4)(hf:bj.length<=4):pt K Z (.cmp .Eq (.var x) (.cut (.var "figures") .absent (.bcall .len [.var x])))=some (dy bj r):=
 aS (v_var h1) (lG (v_var h2) rfl (j5 (v_var h1) (Nat.le_trans ‹_› (Nat.le_add_left _ _))) (Nat.le_trans ‹_› (Nat.le_add_left _ _))) (sO _ _)
theorem yl{K:aI}{bj:List Nat}{ae aR:List (List Nat)}(hf:bj.length<=4)(hr:∀r∈ae,r.length<=4)(hl:ae.length<=1000):
  pt K (GD bj ae aR) (.cmp .NotEq (.comp (.var "row") "row" .no (.var "rows") (.cmp .Eq (.var "row") (.cut (.var "figures") .absent (.bcall .len [.var "row"]))) ["figures"]) (.list []))=some (!(ae.filter (dy bj)).isEmpty):=by
 refine ab (by exact ab List.isEmpty_map rfl:(ae.filter (dy bj)).isEmpty=((ae.filter (dy bj)).map aj).isEmpty) ?_
 exact aS (j6 ae aj (dy bj) aj (dT (v_var rfl)) (cs:=[("figures",aj bj)]) rfl (Nat.le_trans ‹_› (Nat.le_add_left _ _)) (λr hr'=>yk rfl rfl (hr r hr') hf) λr _ _=>v_var rfl) lT (DE _)
theorem Fb{bj:List Nat}{ae aR:List (List Nat)}(hf:bj.length<=4)(hr:∀r∈ae,r.length<=4)(hl:ae.length<=1000)(h:(ae.filter (dy bj)).isEmpty=false):
  ps KM 0 (GD bj ae aR) oh=some (.ret (.list [.int 1,.list []])):=by
 refine jV ((yl hf hr hl).trans (by refine ab h ?_;rfl)) ?_
 exact ab (jy (fO (ay aK (ay lT aO)) rfl (by trivial))) rfl
theorem DN{bj:List Nat}{ae aR:List (List Nat)}{m j:Nat}(hf:bj.length<=4)(hr:∀r∈ae,r.length<=4)(hl:ae.length<=1000)(gF:∀r∈aR,r.length<=4)(hfl:aR.length<=1000)(h:(ae.filter (dy bj)).isEmpty=true)
  (hm:mo (((aR.filter (dy bj)).map λr=>((r.length:Nat):Int)))=some (m:Int)) (hj:aR.findIdx? (λr=>r==bj.take m)=some j):
  ps KM 0 (GD bj ae aR) oh=some (.ret (.list [.int 0,.list [.int j]])):=by
 refine jx ((yl hf hr hl).trans (by refine ab h ?_;rfl)) ?_
 refine ba (j6 aR aj (dy bj) (λr=>.int (r.length:Int)) (dT (v_var rfl)) (cs:=[("figures",aj bj)]) rfl (Nat.le_trans ‹_› (Nat.le_add_left _ _)) (λr hr'=>yk rfl rfl (gF r hr') hf) λr hr' _=>j5 (v_var rfl) (by have:=gF r hr';exact Nat.le_trans ‹_› (Nat.le_add_left _ _))) ?_
 refine jy (fO (ay aK (ay (fO (ay (jv (v_var rfl) (ay (lG (r:=bj) (k:=m) (v_var rfl) rfl (ek (ay (v_var rfl) aO) ?_) (Nat.le_trans ‹_› (Nat.le_add_left _ _))) aO) (r:=.int (j:Int)) ?_) aO) rfl (Nat.succ_pos _)) aO)) rfl (Nat.le_add_left _ _))
 ·refine(?_:Option.map _ ((iC (.d (.list ((aR.filter (dy bj)).map λr=>D.int (r.length:Int))))).bind mo)=_)
  have:iC (.d (.list ((aR.filter (dy bj)).map λr=>D.int (r.length:Int))))=some ((aR.filter (dy bj)).map λr=>((r.length:Nat):Int)):=by
   unfold iC
   rw[oy,Option.bind_some,n9]
  refine ab this ?_;rw[Option.bind_some,hm];rfl
 ·skip
  have e:ft .index (.d (bk aR)) [.d (aj (bj.take m))]=some (.int (j:Int)):=by
   refine ab CP ?_
   simp only[oy,Option.bind_some]
   refine ab (if_pos ⟨List.all_eq_true.mpr λe he=>by exact ah (List.mem_map.mp he) λx _ am=>rB am<|xZ x _,by rw[List.length_map];lia⟩) ?_
   refine ab List.findIdx?_map ?_
   have:((λe=>bA e (aj (bj.take m)))∘aj)=λr=>r==bj.take m:=by
    funext r
    refine(?_:bA (aj r) (aj (bj.take m))=_)
    exact ou _ _
   refine ab this<|ab hj ?_;rfl
  exact mT e
theorem uS:cV 219 (fD "_law_due" "_law_due" (aA 36) .none .none eM 218) (bu (aA 36)):=
 ⟨λP=>⟨_,rfl,rfl⟩,rfl,rfl,⟨218,rfl,by decide+kernel⟩,rfl,rfl,rfl,rfl,rfl⟩
theorem Dw{bj:List Nat}{ae aR:List (List Nat)}(hf:bj.length<=4)(hr:∀r∈ae,r.length<=4)(hl:ae.length<=1000)(h:(ae.filter (dy bj)).isEmpty=false):Fn 1 219 [aj bj,bk ae,bk aR] (.list [.int 1,.list []]):=
 iG (n:=0) (K:=KM) 0 oh uS (names:=["figures","rows","fronts"]) (ny "figures" "rows" "fronts") rfl (of_decide_eq_true rfl) (by decide+kernel) wg (λc tz=>nB 0 c tz) (λ_ _ _ _ _=>gB) (Fb hf hr hl h)
theorem CE{bj:List Nat}{ae aR:List (List Nat)}{m j:Nat}(hf:bj.length<=4)(hr:∀r∈ae,r.length<=4)(hl:ae.length<=1000)(gF:∀r∈aR,r.length<=4)(hfl:aR.length<=1000)(h:(ae.filter (dy bj)).isEmpty=true)
  (hm:mo (((aR.filter (dy bj)).map λr=>((r.length:Nat):Int)))=some (m:Int)) (hj:aR.findIdx? (λr=>r==bj.take m)=some j):Fn 1 219 [aj bj,bk ae,bk aR] (.list [.int 0,.list [.int j]]):=
 iG (n:=0) (K:=KM) 0 oh uS (names:=["figures","rows","fronts"]) (ny "figures" "rows" "fronts") rfl (of_decide_eq_true rfl) (by decide+kernel) wg (λc tz=>nB 0 c tz) (λ_ _ _ _ _=>gB) (DN hf hr hl gF hfl h hm hj)
noncomputable def bJ(c:Nat):List Nat:=if c=92∨c=45∨c=38∨c=124∨c=126 then[92,c]else[c]
theorem vT{α:Type}(f:α->List Nat)(l:List α):bM (l.flatMap f)=l.flatMap λx=>bM (f x):=by
 induction l with
 | nil=>rfl
 | cons a r ih=>refine ab List.flatMap_cons<|ab List.flatMap_cons ?_;rw[sr,ih]
theorem Bp{α:Type}(k:Nat)(z:List Nat)(f:α->List Nat)(l:List α):bF k z (l.flatMap f)=l.flatMap λx=>bF k z (f x):=by
 induction l with
 | nil=>rfl
 | cons a r ih=>
  refine ab List.flatMap_cons<|ab List.flatMap_cons<|rB ih ?_
  unfold bF
  exact ab List.flatMap_append rfl
theorem wJ{f g:Nat->List Nat}{l:List Nat}(h:∀x∈l,f x=g x):l.flatMap f=l.flatMap g:=by
 induction l with
 | nil=>rfl
 | cons a r ih=>refine ab List.flatMap_cons<|ab List.flatMap_cons<|ab (h a List.mem_cons_self) ?_;rw[ih λx hx=>h x (List.mem_cons_of_mem _ hx)]
theorem yg(c:Nat):bM [c]=if cy.isSp c then[92,c]else[c]:=by
 show(if cy.isSp c then[92,c]else[c])++[]=_
 rw[List.append_nil]
theorem qi(c:Nat):cy.isSp c=true↔(c=38∨c=124∨c=126):=by
 unfold cy.isSp
 simp only[Bool.or_eq_true,beq_iff_eq]
 exact or_assoc
theorem xg(b:List Nat):i0 b=b.flatMap bJ:=by
 unfold i0
 by_cases h:45∈b
 ·rw[if_pos h]
  unfold eV
  have e1:bF 92 [92,92] b=b.flatMap λk=>if k=92 then[92,92]else[k]:=rfl
  refine ab e1 ?_;rw[Bp,vT]
  refine wJ λc _=>?_
  unfold bJ
  by_cases h92:c=92
  ·subst h92;rfl
  ·refine ab (if_neg h92)<|(?_:bM ((if c=45 then[92,45]else[c])++[])=_)
   rw[List.append_nil]
   by_cases h45:c=45
   ·subst h45;rfl
   ·refine ab (if_neg h45) ?_;rw[yg]
    by_cases hs:cy.isSp c=true
    ·rw[if_pos hs,if_pos (.inr (.inr ((qi c).mp hs)))]
    ·rw[if_neg hs,if_neg λq=>by
      rcases q with q | q | q
      ·exact h92 q
      ·exact h45 q
      ·exact hs ((qi c).mpr q)]
 ·refine ab (if_neg h) ?_
  have e1:bF 92 [92,92] b=b.flatMap λk=>if k=92 then[92,92]else[k]:=rfl
  refine ab e1 ?_;rw[vT]
  refine wJ λc hc=>?_
  unfold bJ
  by_cases h92:c=92
  ·subst h92;rfl
  ·refine ab (if_neg h92) ?_;rw[yg]
   have h45:c≠45:=λe=>h (e▸hc)
   by_cases hs:cy.isSp c=true
   ·rw[if_pos hs,if_pos (.inr (.inr ((qi c).mp hs)))]
   ·rw[if_neg hs,if_neg λq=>by
     rcases q with q | q | q
     ·exact h92 q
     ·exact h45 q
     ·exact hs ((qi c).mpr q)]
section
noncomputable def rV:String->List D->Option D
 | f,[.str x,.int i,.str y]=>if f="_law_sign"/\0<=i/\i<=1000/\x.cps.toList.length<=1000/\y.cps.toList.length<=1000 then some (pd (cB x.cps.toList i.toNat y.cps.toList))else none
 | _,_=>none
noncomputable def KI:aI:=⟨rV,λ_ _ _=>none,λ_ _ _=>none,λ_ _=>none⟩
theorem Mq(c:Cx)(tz:c.tz):bQ c 2 KI:=by
 refine⟨tz,λf ds r h=>?_,(λ_ _ _ _ h=>nomatch h),λ_ _ _ _ h=>nomatch h⟩
 have h':rV f ds=some r:=h
 cases ds with | nil=>cases h' | cons d1 ds=>
 obtain⟨x,rfl⟩:∃x,d1=.str x:=by cases d1 with | str x=>exact⟨_,rfl⟩ | _=>exact nS h'
 cases ds with | nil=>cases h' | cons d2 ds=>
 obtain⟨i,rfl⟩:∃i,d2=.int i:=by cases d2 with | int x=>exact⟨_,rfl⟩ | _=>exact nS h'
 cases ds with | nil=>cases h' | cons d3 ds=>
 obtain⟨y,rfl⟩:∃y,d3=.str y:=by cases d3 with | str x=>exact⟨_,rfl⟩ | _=>exact nS h'
 cases ds with | cons _ _=>cases h' | nil=>
 have bd:=ki h';clear h'
 have hc:=bd.1
 have h':=bd.2;clear bd
 refine rP hc λaw c1 c2 c3 c4=>?_;subst aw
 refine aC h' ?_
 have e1:D.str x=sd x.cps.toList:=congrArg D.str (i6 x)
 have e2:D.str y=sd y.cps.toList:=congrArg D.str (i6 y)
 have e3:i=((i.toNat:Nat):Int):=by lia
 refine pA 197 _ _ zY (ej (by decide+kernel)) ?_
 have:=IQ (inner:=x.cps.toList) (special:=y.cps.toList) (k:=i.toNat) c3 (by lia) c4
 rwa [<- e3]at this
theorem KV{inner sp:List Nat}{k:Nat}(h1:k<=1000)(h2:inner.length<=1000)(h3:sp.length<=1000):rV "_law_sign" [sd inner,.int (k:Int),sd sp]=some (pd (cB inner k sp)):=by
 show(if _ then _ else _)=_
 refine ab (if_pos ⟨rfl,by lia,by lia,by exact h2,by exact h3⟩) ?_;rw[ja,ja,Int.toNat_natCast]
theorem Hk{K:aI}{Z:Ctx}:pe K Z (.neg (.int 1))=some (.d (.int (-1))):=by rfl
structure JM(inner:List Nat)(bC:List bZ)(ins bar:Bool)(signs:List Nat)(k:Nat)(Z:Ctx):Prop where
 finner:find Z "inner"=some (.d (sd inner))
 fitems:find Z "items"=some (.own (bC.map fU))
 fk:find Z "k"=some (.d (.int (k:Int)))
 fins:find Z "inside"=some (.d (.bool ins))
 fbar:find Z "barred"=some (.d (.bool bar))
 fsigns:find Z "signs"=some (.own (signs.map λc=>sd [c]))
 na:∀x,d8 Z x=true
 acc:find Z "%acc"=none
variable {inner:List Nat} {bC:List bZ} {ins bar:Bool} {signs:List Nat} {k:Nat} {Z:Ctx} {N:Nat}
theorem JM.Av(m:JM inner bC ins bar signs k Z)(j:Nat):JM inner bC ins bar signs j (upd Z "k" (.d (.int (j:Int)))):=by
 refine⟨?_,?_,by rw[ai,if_pos rfl],?_,?_,?_,(λx=>fJ (m.na x) (λ_ h=>nomatch h)),?_⟩<;>rw[ai];rw[if_neg (by decide)]
 ·exact m.finner
 ·exact m.fitems
 ·exact m.fins
 ·exact m.fbar
 ·exact m.fsigns
 ·exact m.acc
theorem JM.push(m:JM inner bC ins bar signs k Z)(c:Nat):JM inner bC ins bar (signs++[c]) k (upd Z "signs" (.own (signs.map (λc=>sd [c])++[sd [c]]))):=by
 refine⟨?_,?_,?_,?_,?_,by rw[ai,if_pos rfl,List.map_append];rfl,(λx=>fJ (m.na x) (λ_ h=>nomatch h)),?_⟩<;>rw[ai];rw[if_neg (by decide)]
 ·exact m.finner
 ·exact m.fitems
 ·exact m.fk
 ·exact m.fins
 ·exact m.fbar
 ·exact m.acc
noncomputable def KF:St:=pP.getD 2 .bad
noncomputable def jG:List St:=qC KF
noncomputable def uK:List St:=oN (jG.getD 1 .bad)
noncomputable def qE:St:=uK.getD 1 .bad
noncomputable def uC:List St:=qC qE
noncomputable def z':E:=match qE with
 | .whileS t _=>t
 | _=>.none
theorem D'{c:Nat}(m:JM inner bC ins bar signs k Z)(hi:inner.length<=1000)(hk:k < inner.length)(hsl:signs.length<=1000)
  (hs:cB inner k (if ins then[45]else[93,40,41,42,43,63,123,125,124,94,36])=some c):
  ∃af,ps KI N Z uC=some (.next af)/\JM inner bC ins bar (signs++[c]) (if inner[k]=92 then k+2 else k+1) af:=by
 have m1:=m.push c
 refine aJ _ (kF m.fsigns (fc (ay (v_var m.finner) (ay (v_var m.fk) (ay (v_ite (c:=ins) (l:=.d (sd (if ins then[45]else[93,40,41,42,43,63,123,125,124,94,36]))) (fw (v_var m.fins) rfl) (λh=>by exact ab h<|bc) (λh=>by exact ab h<|bc)) aO))) rfl ?_) (by rw[List.length_map];lia) (jx ?_ (ba (d:=.int ((if inner[k]=92 then k+2 else k+1:Nat):Int)) ?_ bo))) (m1.Av (if inner[k]=92 then k+2 else k+1))
 ·refine(?_:rV "_law_sign" [sd inner,.int (k:Int),sd _]=some (sd [c]))
  refine ab (KV (by lia) hi (by refine bq (λ_=>?_) λ_=>?_<;>trivial))<|ab hs ?_;rfl
 ·skip
  exact aS (cS (v_var m1.fsigns) Hk (item_last (ds:=(signs++[c]).map λc=>sd [c]) rfl (by simp) (by simp;lia):hW (.own ((signs++[c]).map λc=>sd [c])) (.d (.int (-1)))=some (sd [c]))) ui rfl
 ·refine v_ite (c:=decide (inner[k]=92)) (aS (cS (v_var m1.finner) (v_var m1.fk) (item_str (List.getElem?_eq_getElem hk) (by lia))) bc (fQ _ _)) (λh=>?_) λh=>?_
  ·exact ab (if_pos (by simpa using h))<|aU (v_var m1.fk) aK (ru k)
  ·exact ab (if_neg (by simpa using h))<|aU (v_var m1.fk) aK (gv k)
noncomputable def aP(enc:Nat->List Nat)(b:List Nat):List Nat:=b.flatMap enc
theorem D9{enc:Nat->List Nat}{b:List Nat}(m:JM inner bC ins bar [] k Z)(hi:inner.length<=1000)(hb:b≠[])(hbl:b.length<=100)(hN:100 < N)(hin1:ins=false->b.length=1)
  (henc:∀c∈b,(enc c=[c]/\c≠92)∨enc c=[92,c])
  (d0:∀t,t < (aP enc b).length->inner[k+t]? =(aP enc b)[t]?)
  (hread:∀j (hj:j < b.length),cB inner (k+(aP enc (b.take j)).length) (if ins then[45]else[93,40,41,42,43,63,123,125,124,94,36])=some b[j])
  (iv:ins=true->∀j,0 < j->j < b.length->inner[k+(aP enc (b.take j)).length]? ≠some 93)
  (je:ins=true->inner[k+(aP enc b).length]? =some 93):
  ∃af,jO KI N Z qE=some (.next af)/\JM inner bC ins bar b (k+(aP enc b).length) af:=by
 have iq:∀j,j < b.length->b=b.take j++b[j]! ::b.drop (j+1):=λj hj=>by
  have:=List.take_append_drop j b
  rw[List.drop_eq_getElem_cons hj]at this
  exact ab (getElem!_pos b j hj) this.symm
 have hpos:∀c∈b,0 < (enc c).length:=λc hc=>by rcases henc c hc with⟨e,_⟩ | e<;>refine ab e ?_<;>simp
 have hrun:=wS (t:=λZ=>pt KI Z z') (b:=λZ=>ps KI N Z uC) (λj af=>JM inner bC ins bar (b.take j) (k+(aP enc (b.take j)).length) af) b.length ?_ ?_ N 0 Z (Nat.zero_le _) (by lia) (by exact m)
 ·refine ah hrun λaf w1 w2=>?_
  rw[List.take_length]at w2
  refine aJ af ?_ w2
  refine(?_:jO KI N Z (.whileS z' uC)=_)
  exact w1
 ·intro j af hj mj
  have hJ:aP enc b=aP enc (b.take j)++(enc b[j]++aP enc (b.drop (j+1))):=by
   have e:b=b.take j++b[j]::b.drop (j+1):=by
    have:=List.take_append_drop j b
    rw[List.drop_eq_getElem_cons hj]at this
    exact this.symm
   unfold aP
   conv=>lhs;rw[e]
   refine ab List.flatMap_append ?_;rw[List.flatMap_cons]
  have hcp:=hpos b[j] (List.getElem_mem hj)
  have aV:=congrArg List.length hJ
  simp only[List.length_append]at aV
  have hfirst:inner[k+(aP enc (b.take j)).length]? =(enc b[j])[0]? :=by
   refine ab (d0 _ (by lia))<|ab hJ<|ab (List.getElem?_append_right (Nat.le_refl _)) ?_;rw[Nat.sub_self,List.getElem?_append_left hcp]
  have hkl:k+(aP enc (b.take j)).length < inner.length:=by
   by_cases q:k+(aP enc (b.take j)).length < inner.length
   ·exact q
   ·rw[List.getElem?_eq_none (by lia),List.getElem?_eq_getElem hcp]at hfirst;exact nS hfirst
  refine ah (D' (N:=N) mj hi hkl (by refine ab List.length_take ?_;lia) (hread j hj)) λaF h1 h2=>?_
  refine⟨?_,aF,h1,?_⟩
  ·have t1:pt KI af (.cmp .Eq (.var "signs") (.list []))=some (b.take j).isEmpty:=by
    refine aS (v_var mj.fsigns) lT ?_
    cases hbt:b.take j with
    | nil=>rfl
    | cons a r=>rfl
   cases hbt:(b.take j).isEmpty with
   | true=>rw[hbt]at t1;exact uz t1
   | false=>
    rw[hbt]at t1
    have hj0:0 < j:=by
     cases j with
     | zero=>exact tF hbt
     | succ j=>lia
    have hins:ins=true:=by
     cases hq:ins with
     | true=>rfl
     | false=>lia
    have au:=iv hins j hj0 hj
    have hcut:pe KI af (.cut (.var "inner") (.var "k") (.bin .Add (.var "k") (.int 1)))=some (.d (sd [inner[k+(aP enc (b.take j)).length]])):=by
     refine v_cut (v_var mj.finner) (fg rfl (v_var mj.fk)) (fg rfl (aU (v_var mj.fk) aK (gv _)))<|ab (kL (by lia)) ?_;rw[lH,show k+(aP enc (b.take j)).length+1 - (k+(aP enc (b.take j)).length)=1 by lia,take_one,List.getElem?_eq_getElem hkl];rfl
    have t2:pt KI af (.boolop .And [.tv (.var "inside"),.cmp .NotEq (.cut (.var "inner") (.var "k") (.bin .Add (.var "k") (.int 1))) (.str [93])])=some true:=by
     refine sw (fw (v_var mj.fins) (by refine ab hins ?_;rfl)) (aS hcut bc ?_)
     rw[qG,decide_eq_false λe=>au (by refine ab (List.getElem?_eq_getElem hkl) ?_;rw[e])];rfl
    exact nt t1 (uz t2)
  ·have gX:(if inner[k+(aP enc (b.take j)).length]=92 then k+(aP enc (b.take j)).length+2 else k+(aP enc (b.take j)).length+1)=k+(aP enc (b.take (j+1))).length:=by
    have e2:aP enc (b.take (j+1))=aP enc (b.take j)++enc b[j]:=by
     unfold aP
     refine ab List.take_add_one<|ab (List.getElem?_eq_getElem hj)<|ab List.flatMap_append ?_
     simp
    refine ab e2<|ab List.length_append ?_
    rw[List.getElem?_eq_getElem hkl]at hfirst
    rcases henc b[j] (List.getElem_mem hj)with⟨e,au⟩ | e
    ·rw[e]at hfirst⊢
     refine ab (if_neg (by exact ab (Option.some.inj hfirst:inner[k+(aP enc (b.take j)).length]=b[j])<|au)) ?_;simp;lia
    ·rw[e]at hfirst⊢
     refine ab (if_pos (Option.some.inj hfirst:inner[k+(aP enc (b.take j)).length]=92)) ?_;simp;lia
   rw[gX]at h2
   have e3:b.take (j+1)=b.take j++[b[j]]:=by refine ab List.take_add_one<|ab (List.getElem?_eq_getElem hj) ?_;rfl
   rw[<- e3]at h2
   exact h2
 ·intro af mj
  replace mj:=List.take_length▸mj
  have t1:pt KI af (.cmp .Eq (.var "signs") (.list []))=some false:=by
   refine aS (v_var mj.fsigns) lT ?_
   cases b with
   | nil=>exact absurd rfl hb
   | cons a r=>rfl
  cases hins:ins with
  | false=>exact nt t1 (nt (vX (fw (v_var mj.fins) (by refine ab hins ?_;rfl))) rfl)
  | true=>
   have he:=je hins
   have hkl:k+(aP enc b).length < inner.length:=by
    by_cases q:k+(aP enc b).length < inner.length
    ·exact q
    ·replace he:=Eq.trans (Eq.symm (List.getElem?_eq_none (by lia))) he;exact nS he
   have hcut:pe KI af (.cut (.var "inner") (.var "k") (.bin .Add (.var "k") (.int 1)))=some (.d (sd [93])):=by
    refine v_cut (v_var mj.finner) (fg rfl (v_var mj.fk)) (fg rfl (aU (v_var mj.fk) aK (gv _)))<|ab (kL (by lia)) ?_;rw[lH,show k+(aP enc b).length+1 - (k+(aP enc b).length)=1 by lia,take_one,he];rfl
   have t2:pt KI af (.boolop .And [.tv (.var "inside"),.cmp .NotEq (.cut (.var "inner") (.var "k") (.bin .Add (.var "k") (.int 1))) (.str [93])])=some false:=by
    exact(kf (K:=KI) (Z:=af) (fw (v_var mj.fins) (t:=true) (by refine ab hins ?_;rfl)) λ_=>aS hcut (bc (l:=[93])) (qG 93 93))
   exact nt t1 (nt t2 rfl)
end
section
structure OM(inner:List Nat)(bC:List bZ)(k:Nat)(Z:Ctx):Prop where
 finner:find Z "inner"=some (.d (sd inner))
 fitems:find Z "items"=some (.own (bC.map fU))
 fk:find Z "k"=some (.d (.int (k:Int)))
 na:∀x,d8 Z x=true
 acc:find Z "%acc"=none
section
variable {inner:List Nat} {bC:List bZ} {k:Nat} {Z:Ctx} {N:Nat}
theorem FV{K:aI}{x y z:String}{e f:E}{r:List St}{d1 d2:D}{o:az}(h1:pe K Z e=some (.d d1))(h2:pe K Z f=some (.d d2))(na:∀x,d8 Z x=true)(acc:find Z "%acc"=none)(h3:ps K N (upd (upd (upd Z z (.own [])) y (.d d2)) x (.d d1)) r=some o):ps K N Z (.swap3l x y z e f::r)=some o:=
 fP (fB (fB h1 rfl) (fB (fB h2 rfl) (if_pos (by rw[na,na,acc];rfl)))) h3
theorem OM.start(m:OM inner bC k Z)(i b:Bool):JM inner bC i b [] k (upd (upd (upd Z "signs" (.own [])) "barred" (.d (.bool b))) "inside" (.d (.bool i))):=by
 refine⟨?_,?_,?_,by rw[ai,if_pos rfl],?_,?_,(λx=>fJ (fJ (fJ (m.na x) (λ_ h=>nomatch h)) (λ_ h=>nomatch h)) (λ_ h=>nomatch h)),?_⟩<;>rw[ai,if_neg (by decide),ai]
 ·refine ab (if_neg (by decide)) ?_;rw[ai,if_neg (by decide)];exact m.finner
 ·refine ab (if_neg (by decide)) ?_;rw[ai,if_neg (by decide)];exact m.fitems
 ·refine ab (if_neg (by decide)) ?_;rw[ai,if_neg (by decide)];exact m.fk
 ·exact ab (if_pos rfl) rfl
 ·refine ab (if_neg (by decide)) ?_;rw[ai,if_pos rfl];rfl
 ·refine ab (if_neg (by decide)) ?_;rw[ai,if_neg (by decide)];exact m.acc
theorem Hs{K:aI}(m:OM inner bC k Z)(hi:inner.length<=1000):pe K Z (.cut (.var "inner") (.var "k") (.bin .Add (.var "k") (.int 2)))=some (.d (sd ((inner.drop k).take 2))):=by
 refine v_cut (v_var m.finner) (fg rfl (v_var m.fk)) (fg rfl (aU (v_var m.fk) aK (ru _)))<|ab (kL (by lia)) ?_;rw[lH,show k+2 - k=2 by lia]
theorem xm{c:Nat}{o:az}(m:OM inner bC k Z)(hi:inner.length<=1000)(hk:inner[k]? =some c)
  (h:ps KI N (upd (upd (upd Z "signs" (.own [])) "barred" (.d (.bool ((inner.drop k).take 2==[91,94])))) "inside" (.d (.bool (decide (c=91))))) (jG.drop 1)=some o):ps KI N Z jG=some o:=
 FV (uy (cS (v_var m.finner) (v_var m.fk) (item_str hk (by lia))) bc (fQ _ _)) (uy (Hs m hi) bc (sM _ _)) m.na m.acc h
theorem Gr(m:OM inner bC k Z)(hi:inner.length<=1000)(hl:bC.length<=1000)(hk:inner[k]? =some 46):∃af,ps KI N Z jG=some (.next af)/\OM inner (bC++[(true,[])]) (k+1) af:=by
 have j:=m.start (decide ((46:Nat)=91)) ((inner.drop k).take 2==[91,94])
 refine aJ _ (xm m hi hk (jz (aS (cS (v_var j.finner) (v_var j.fk) (item_str hk (by lia))) bc (fQ 46 46)) (kF j.fitems (fO (ay zh (ay lT aO)) rfl (by trivial)) (by rw[List.length_map];lia) (ba (aU (v_var (by rw[ai,if_neg (by decide)];exact j.fk)) aK (gv k)) bo)) bo)) ?_
 refine⟨?_,?_,by rw[ai,if_pos rfl],(λx=>fJ (fJ (j.na x) (λ_ h=>nomatch h)) (λ_ h=>nomatch h)),?_⟩<;>rw[ai,if_neg (by decide),ai]
 ·exact j.finner
 ·refine ab (if_pos rfl)<|ab List.map_append ?_;rfl
 ·exact j.acc
theorem oe{enc:Nat->List Nat}{b:List Nat}{c k0:Nat}{ins bar:Bool}(m:OM inner bC k Z)(hi:inner.length<=1000)(hl:bC.length<=1000)(hk:inner[k]? =some c)(hc46:c≠46)(hins:ins=decide (c=91))(hbar:bar=((inner.drop k).take 2==[91,94]))
  (hk0:k0=if bar then k+2 else if ins then k+1 else k) (hb:b≠[]) (hbl:b.length<=100) (hN:100 < N) (hin1:ins=false->b.length=1)
  (henc:∀c∈b,(enc c=[c]/\c≠92)∨enc c=[92,c])
  (d0:∀t,t < (aP enc b).length->inner[k0+t]? =(aP enc b)[t]?)
  (hread:∀j (hj:j < b.length),cB inner (k0+(aP enc (b.take j)).length) (if ins then[45]else[93,40,41,42,43,63,123,125,124,94,36])=some b[j])
  (iv:ins=true->∀j,0 < j->j < b.length->inner[k0+(aP enc (b.take j)).length]? ≠some 93)
  (je:ins=true->inner[k0+(aP enc b).length]? =some 93):
  ∃af,ps KI N Z jG=some (.next af)/\OM inner (bC++[(bar,b)]) (if ins then k0+(aP enc b).length+1 else k0+(aP enc b).length) af:=by
 have j:=m.start ins bar
 have hdot:pt KI (upd (upd (upd Z "signs" (.own [])) "barred" (.d (.bool bar))) "inside" (.d (.bool ins))) (.cmp .Eq (.item (.var "inner") (.var "k")) (.str [46]))=some false:=
  aS (cS (v_var j.finner) (v_var j.fk) (item_str hk (by lia))) bc (by rw[fQ,decide_eq_false hc46])
 have hkv:pe KI (upd (upd (upd Z "signs" (.own [])) "barred" (.d (.bool bar))) "inside" (.d (.bool ins))) (.ite (.tv (.var "barred")) (.bin .Add (.var "k") (.int 2)) (.ite (.tv (.var "inside")) (.bin .Add (.var "k") (.int 1)) (.var "k")))=some (.d (.int (k0:Int))):=by
  refine v_ite (c:=bar) (fw (v_var j.fbar) rfl) (λh=>?_) λh=>v_ite (c:=ins) (fw (v_var j.fins) rfl) (λh2=>?_) λh2=>?_
  ·exact ab hk0<|ab (if_pos h)<|aU (v_var j.fk) aK (ru k)
  ·exact ab hk0<|ab (if_neg (by rw[h];decide))<|ab (if_pos h2)<|aU (v_var j.fk) aK (gv k)
  ·refine ab hk0<|ab (if_neg (by rw[h];decide))<|ab (if_neg (by refine ab h2 ?_;decide)) ?_;exact v_var j.fk
 let P:Ctx->Prop:=λaf=>OM inner (bC++[(bar,b)]) (if ins then k0+(aP enc b).length+1 else k0+(aP enc b).length) af
 suffices hs:∃af,ps KI N (upd (upd (upd (upd Z "signs" (.own [])) "barred" (.d (.bool bar))) "inside" (.d (.bool ins))) "k" (.d (.int (k0:Int)))) (qE::uK.drop 2)=some (.next af)/\P af by
  obtain⟨af,h1,h2⟩:=hs
  refine aJ af (xm m hi hk ?_) h2
  exact rB hbar<|rB hins<|d7 hdot (ba hkv h1) bo
 have key:∀cH,JM inner bC ins bar b (k0+(aP enc b).length) cH->∃af,ps KI N cH (uK.drop 2)=some (.next af)/\P af:=λcH j2=>by
  have f1:∀x,x≠"signs"->find (upd cH "signs" (.d (.list (b.map λc=>sd [c])))) x=find cH x:=λx hx=>by rw[ai,if_neg (Ne.symm hx)]
  have ed:pe KI (upd cH "signs" (.d (.list (b.map λc=>sd [c])))) (.list [.var "barred",.var "signs"])=some (.d (fU (bar,b))):=
   fO (ay (v_var (by exact ab (f1 _ (by decide))<|j2.fbar)) (ay (v_var (by rw[ai,if_pos rfl])) aO)) rfl (by simp)
  have f2:∀x,x≠"items"->x≠"signs"->find (upd (upd cH "signs" (.d (.list (b.map λc=>sd [c])))) "items" (.own (bC.map fU++[fU (bar,b)]))) x=find cH x:=λx h1 h2=>by rw[ai,if_neg (Ne.symm h1),f1 x h2]
  refine aJ _ (tw j2.fsigns (j2.na _) (kF (by exact ab (f1 _ (by decide))<|j2.fitems) ed (by rw[List.length_map];lia) (ba (d:=.int ((if ins then k0+(aP enc b).length+1 else k0+(aP enc b).length:Nat):Int)) ?_ bo))) ?_
  ·refine v_ite (c:=ins) (fw (v_var (by exact ab (f2 _ (by decide) (by decide))<|j2.fins)) rfl) (λh=>?_) λh=>?_
   ·exact ab (if_pos h)<|aU (v_var (by rw[f2 _ (by decide) (by decide)];exact j2.fk)) aK (gv _)
   ·refine ab (if_neg (by refine ab h ?_;decide)) ?_;exact v_var (by rw[f2 _ (by decide) (by decide)];exact j2.fk)
  ·refine⟨?_,?_,by rw[ai,if_pos rfl],(λx=>fJ (fJ (fJ (j2.na x) (λ_ h=>nomatch h)) (λ_ h=>nomatch h)) (λ_ h=>nomatch h)),?_⟩<;>rw[ai];rw[if_neg (by decide)]
   ·exact ab (f2 _ (by decide) (by decide)) j2.finner
   ·rw[ai,if_pos rfl,List.map_append];rfl
   ·exact ab (f2 _ (by decide) (by decide)) j2.acc
 refine ah (D9 (N:=N) (j.Av k0) hi hb hbl hN hin1 henc d0 hread iv je) λcH w1 w2=>ah (key cH w2) λaf q1 q2=>?_
 exact aJ af (fP w1 q1) q2
end
end
section
noncomputable def Tk.item:Tk->bZ
 | .lit k=>(false,[k])
 | .cls k=>(false,[k])
 | .neg b=>(true,b)
 | .any=>(true,[])
section
variable {inner:List Nat} {bC:List bZ} {k:Nat} {Z:Ctx} {N:Nat}
theorem nZ{o:List Nat}{c:Nat}(h:∀t,t < o.length->inner[k+t]? =o[t]?)(h0:o[0]? =some c):inner[k]? =some c:=by
 have hl:0 < o.length:=by
  by_cases q:0 < o.length
  ·exact q
  ·replace h0:=Eq.trans (Eq.symm (List.getElem?_eq_none (by lia))) h0;exact nS h0
 have:=h 0 hl
 rwa [Nat.add_zero,h0]at this
theorem ul{x y:Nat}(h1:inner[k]? =some x)(h2:inner[k+1]? =some y):(inner.drop k).take 2=[x,y]:=by
 apply List.ext_getElem?
 intro t
 refine ab List.getElem?_take<|ab List.getElem?_drop ?_
 match t with
 | 0=>exact h1
 | 1=>exact h2
 | t+2=>rfl
theorem zS{x:Nat}(h1:inner[k]? =some x)(hx:x≠91):((inner.drop k).take 2==[91,94])=false:=by
 rw[beq_eq_false_iff_ne]
 intro e
 have:((inner.drop k).take 2)[0]? =some 91:=by refine ab e ?_;rfl
 rw[List.getElem?_take,if_pos (by decide),List.getElem?_drop,Nat.add_zero,h1]at this
 exact hx (Option.some.inj this)
theorem sh:∀k∈spec,Txt.isalnum (S [k])=false:=by decide+kernel
theorem EF{k:Nat}(h:k∉spec):k∉[93,40,41,42,43,63,123,125,124,94,36]:=by
 intro hm
 apply h
 have:∀x∈[93,40,41,42,43,63,123,125,124,94,36],x∈spec:=by decide
 exact this k hm
theorem Fm{c:Nat}(m:OM inner bC k Z)(hi:inner.length<=1000)(hl:bC.length<=1000)(hN:100 < N)(ok:Tk.Ok (.lit c))(h:∀t,t < (Tk.out (.lit c)).length->inner[k+t]? =(Tk.out (.lit c))[t]?):
  ∃af,ps KI N Z jG=some (.next af)/\OM inner (bC++[Tk.item (.lit c)]) (k+(Tk.out (.lit c)).length) af:=by
 have ho:Tk.out (.lit c)=eS c:=rfl
 rw[ho]at h⊢
 have henc:aP eS [c]=eS c:=by unfold aP;simp
 by_cases hc:c∈spec
 ·have he:eS c=[92,c]:=if_pos hc
  have h0:inner[k]? =some 92:=nZ h (by refine ab he ?_;rfl)
  have h1:inner[k+1]? =some c:=by have:=h 1 (by refine ab he ?_;simp);rwa [he]at this
  obtain⟨af,q1,q2⟩:=oe (N:=N) (enc:=eS) (b:=[c]) (k0:=k) (ins:=false) (bar:=false) m hi hl h0 (by decide) (by decide) (zS h0 (by decide)).symm (by rfl) (by simp) (by simp) hN (λ_=>rfl)
   (λx hx=>by exact ab (List.mem_singleton.mp hx)<| .inr he) (by exact ab henc<|h)
   (λj hj=>by
    have:j=0:=by simp at hj;omega
    subst this
    refine(?_:cB inner k _=some c)
    unfold cB
    refine ab h0 ?_;simp only[if_true];refine ab h1 ?_;simp only[sh c hc,Bool.false_eq_true,if_false]) (λh=>nomatch h) (λh=>nomatch h)
  rw[henc]at q2
  exact aJ af q1 q2
 ·have he:eS c=[c]:=if_neg hc
  have h0:inner[k]? =some c:=nZ h (by refine ab he ?_;rfl)
  have h92:c≠92:=λe=>hc (by refine ab e ?_;decide)
  obtain⟨af,q1,q2⟩:=oe (N:=N) (enc:=eS) (b:=[c]) (k0:=k) (ins:=false) (bar:=false) m hi hl h0 (λe=>hc (by refine ab e ?_;decide):c≠46) (decide_eq_false ok.2.2.2).symm (zS h0 ok.2.2.2).symm (by rfl) (by simp) (by simp) hN (λ_=>rfl)
   (λx hx=>by exact ab (List.mem_singleton.mp hx)<| .inl ⟨he,h92⟩) (by exact ab henc<|h)
   (λj hj=>by
    have:j=0:=by simp at hj;omega
    subst this
    refine(?_:cB inner k _=some c)
    unfold cB
    refine ab h0 ?_;simp only[if_neg h92];exact ab (if_neg (by exact EF hc)) rfl) (λh=>nomatch h) (λh=>nomatch h)
  rw[henc]at q2
  exact aJ af q1 q2
theorem Fp(m:OM inner bC k Z)(hi:inner.length<=1000)(hl:bC.length<=1000)(h:∀t,t < (Tk.out .any).length->inner[k+t]? =(Tk.out .any)[t]?):∃af,ps KI N Z jG=some (.next af)/\OM inner (bC++[Tk.item .any]) (k+(Tk.out .any).length) af:=
 Gr m hi hl (nZ h rfl)
theorem Fo{c:Nat}(m:OM inner bC k Z)(hi:inner.length<=1000)(hl:bC.length<=1000)(hN:100 < N)(ok:Tk.Ok (.cls c))(h:∀t,t < (Tk.out (.cls c)).length->inner[k+t]? =(Tk.out (.cls c))[t]?):
  ∃af,ps KI N Z jG=some (.next af)/\OM inner (bC++[Tk.item (.cls c)]) (k+(Tk.out (.cls c)).length) af:=by
 by_cases hc:c=91
 ·subst hc
  have ho:Tk.out (.cls 91)=[91,92,91,93]:=rfl
  have h0:inner[k]? =some 91:=nZ h rfl
  have h1:inner[k+1]? =some 92:=h 1 (by decide)
  have h2:inner[k+1+1]? =some 91:=h 2 (by decide)
  obtain⟨af,q1,q2⟩:=oe (N:=N) (enc:=λx=>[92,x]) (b:=[91]) (k0:=k+1) (ins:=true) (bar:=false) m hi hl h0 (by decide) (by decide) (by refine ab (ul h0 h1) ?_;rfl) (by rfl) (by simp) (by trivial) hN (λh=>nomatch h)
   (λx _=>.inr rfl) (λt ht=>by
    match t with
    | 0=>exact h1
    | 1=>exact h2
    | t+2=>simp[aP]at ht;omega)
   (λj hj=>by
    have:j=0:=by simp at hj;omega
    subst this
    refine(?_:cB inner (k+1) _=some 91)
    unfold cB
    refine ab h1 ?_;simp only[if_true];refine ab h2 ?_;simp only[sh 91 (by decide),Bool.false_eq_true,if_false]) (λ_ j h1 h2=>by simp at h2;omega) (λ_=>(h 3 (by decide):inner[k+1+2]? =some 93))
  exact aJ af q1 q2
 ·have ho:Tk.out (.cls c)=[91,c,93]:=by show(if c=91 then _ else _)=_;exact ab (if_neg hc) rfl
  rw[ho]at h⊢
  have hc2:c≠92/\c≠45/\c≠94:=by rcases ok with rfl | rfl | rfl<;>first | exact absurd rfl hc | decide
  have h0:inner[k]? =some 91:=nZ h rfl
  have h1:inner[k+1]? =some c:=h 1 (by simp)
  have h2:inner[k+1+1]? =some 93:=h 2 (by simp)
  obtain⟨af,q1,q2⟩:=oe (N:=N) (enc:=λx=>[x]) (b:=[c]) (k0:=k+1) (ins:=true) (bar:=false) m hi hl h0 (by decide) (by decide) (by
    refine ab (ul h0 h1)<|(beq_eq_false_iff_ne.mpr λe=>hc2.2.2 ?_).symm
    injection e with _ e
    injection e with e _) (by rfl) (by simp) (by simp) hN (λh=>nomatch h)
   (λx hx=>by exact ab (List.mem_singleton.mp hx)<| .inl ⟨rfl,hc2.1⟩) (λt ht=>by
    match t with
    | 0=>exact h1
    | t+1=>simp[aP]at ht)
   (λj hj=>by
    have:j=0:=by simp at hj;omega
    subst this
    refine(?_:cB inner (k+1) _=some c)
    unfold cB
    refine ab h1 ?_;simp only[if_neg hc2.1];exact ab (if_neg (by simpa using hc2.2.1)) rfl) (λ_ j h1 h2=>by simp at h2;omega) (λ_=>h2)
  exact aJ af q1 q2
theorem xT(c:Nat):0 < (bJ c).length:=by unfold bJ;refine bq (λ_=>?_) λ_=>?_<;>simp
theorem Fl{b:List Nat}(m:OM inner bC k Z)(hi:inner.length<=1000)(hl:bC.length<=1000)(hN:100 < N)(ok:Tk.Ok (.neg b))(h:∀t,t < (Tk.out (.neg b)).length->inner[k+t]? =(Tk.out (.neg b))[t]?):
  ∃af,ps KI N Z jG=some (.next af)/\OM inner (bC++[Tk.item (.neg b)]) (k+(Tk.out (.neg b)).length) af:=by
 have aw:=ok
 have hbl:=aw.2.1
 have ho:Tk.out (.neg b)=[91,94]++(aP bJ b++[93]):=by
  show[91,94]++i0 b++[93]=_
  rw[xg,List.append_assoc];rfl
 rw[ho]at h⊢
 have aV:([91,94]++(aP bJ b++[93])).length=(aP bJ b).length+3:=by simp
 have h0:inner[k]? =some 91:=nZ h rfl
 have d0:∀t,t < (aP bJ b).length->inner[k+2+t]? =(aP bJ b)[t]? :=λt ht=>by
  have:=h (t+2) (by lia)
  rw[show k+(t+2)=k+2+t by lia]at this
  refine ab this<|(?_:(aP bJ b++[93])[t]? =_)
  exact ab (List.getElem?_append_left ht) rfl
 have hE:inner[k+2+(aP bJ b).length]? =some 93:=by
  have:=h ((aP bJ b).length+2) (by lia)
  rw[show k+((aP bJ b).length+2)=k+2+(aP bJ b).length by lia]at this
  refine ab this<|(?_:(aP bJ b++[93])[(aP bJ b).length]? =_)
  simp
 have hJ:∀j (hj:j < b.length),aP bJ b=aP bJ (b.take j)++(bJ b[j]++aP bJ (b.drop (j+1))):=λj hj=>by
  have e:b=b.take j++b[j]::b.drop (j+1):=by
   have:=List.take_append_drop j b
   rw[List.drop_eq_getElem_cons hj]at this
   exact this.symm
  unfold aP
  conv=>lhs;rw[e]
  refine ab List.flatMap_append ?_;rw[List.flatMap_cons]
 have hsign:∀j (hj:j < b.length) t,t < (bJ b[j]).length->inner[k+2+(aP bJ (b.take j)).length+t]? =(bJ b[j])[t]? :=λj hj t ht=>by
  have hs:=hJ j hj
  have eY:=congrArg List.length hs
  simp only[List.length_append]at eY
  refine ab (show k+2+(aP bJ (b.take j)).length+t=k+2+((aP bJ (b.take j)).length+t) by lia)<|ab (d0 _ (by lia))<|ab hs<|ab (List.getElem?_append_right (by lia)) ?_;rw[Nat.add_sub_cancel_left,List.getElem?_append_left ht]
 obtain⟨af,q1,q2⟩:=oe (N:=N) (enc:=bJ) (b:=b) (k0:=k+2) (ins:=true) (bar:=true) m hi hl h0 (by decide) (by decide) (by refine ab (ul h0 (h 1 (by simp):inner[k+1]? =some 94)) ?_;rfl) (by rfl) aw.1 (by lia) hN (λh=>nomatch h)
  (λx hx=>by
   unfold bJ
   refine bq (λ_=>?_) λ_=>?_
   ·exact .inr rfl
   ·rename_i q;exact .inl ⟨rfl,λe=>q (.inl e)⟩) d0
  (λj hj=>by
   have s0:=hsign j hj 0 (xT _)
   unfold cB
   by_cases q:b[j]=92∨b[j]=45∨b[j]=38∨b[j]=124∨b[j]=126
   ·have hn:bJ b[j]=[92,b[j]]:=if_pos q
    have s1:=hsign j hj 1 (by refine ab hn ?_;simp)
    rw[hn]at s0 s1
    have s0':inner[k+2+(aP bJ (b.take j)).length]? =some 92:=s0
    have s1':inner[k+2+(aP bJ (b.take j)).length+1]? =some b[j]:=s1
    have iq:b[j]∈spec:=by rcases q with q | q | q | q | q<;>refine ab q ?_<;>decide
    refine ab s0' ?_;simp only[if_true];refine ab s1' ?_;simp only[sh _ iq,Bool.false_eq_true,if_false]
   ·have hn:bJ b[j]=[b[j]]:=if_neg q
    replace s0:=hn▸s0
    have s0':inner[k+2+(aP bJ (b.take j)).length]? =some b[j]:=s0
    refine ab s0' ?_
    simp only[if_true,if_neg λe=>q (.inl e)]
    exact ab (if_neg (by simpa using λe=>q (.inr (.inl e)))) rfl)
  (λ_ j hj0 hj e=>by
   have s0:=hsign j hj 0 (xT _)
   rw[Nat.add_zero,e]at s0
   unfold bJ at s0
   split at s0
   ·exact absurd (Option.some.inj s0) (by decide)
   ·skip
    refine aw.2.2.1 (List.mem_of_getElem? (i:=j - 1) ?_)
    refine ab List.getElem?_tail ?_;refine ab (show j - 1+1=j by lia)<|ab (List.getElem?_eq_getElem hj) ?_;rw[((Option.some.inj s0).symm:b[j]=93)]) (λ_=>hE)
 exact aJ af q1<|ab aV<|ab (show k+((aP bJ b).length+3)=k+2+(aP bJ b).length+1 by lia) q2
theorem Ht{tk:Tk}(m:OM inner bC k Z)(hi:inner.length<=1000)(hl:bC.length<=1000)(hN:100 < N)(ok:tk.Ok)(h:∀t,t < tk.out.length->inner[k+t]? =tk.out[t]?):
  ∃af,ps KI N Z jG=some (.next af)/\OM inner (bC++[tk.item]) (k+tk.out.length) af:=by
 cases tk with
 | lit k=>exact Fm m hi hl hN ok h
 | cls k=>exact Fo m hi hl hN ok h
 | neg b=>exact Fl m hi hl hN ok h
 | any=>exact Fp m hi hl h
end
end
theorem FU{K:aI}{N:Nat}{Z:Ctx}{x y z:String}{e f:E}{r:List St}{d1 d3:D}{o:az}(h1:pe K Z e=some (.d d1))(h2:pe K (("%acc",.own [])::d5 Z "%acc") f=some (.d d3))(n1:d8 Z y=true)(n2:d8 Z "%acc"=true)(acc:find Z "%acc"=none)(h3:ps K N (upd (upd (upd Z z (.d d3)) y (.own [])) x (.d d1)) r=some o):ps K N Z (.swap3m x y z e f::r)=some o:=
 fP (fB (fB h1 rfl) (fB (fB h2 rfl) (if_pos (by rw[n1,n2,acc];rfl)))) h3
theorem Jm(toks:List Tk)(eX:∀t∈toks,t.Ok)(hz:(toks.flatMap Tk.out).length<=900)(hl:toks.length<=100):
  ps KI 1000 [("text",.d (sd (gI toks)))] pP=some (.ret (cO (toks.map Tk.item))):=by
 generalize hp:toks.flatMap Tk.out=inner at hz
 have ht:gI toks=[40,63,115,58]++inner++[41,92,90]:=by
  delta gI qg
  refine rB hp ?_;rw[List.flatMap_def]
 have hcut:cut (gI toks) (some 4) (some (-3))=inner:=by
  generalize hL:(gI toks).length=L
  have hL2:L=inner.length+7:=by refine rB hL<|ab ht ?_;simp
  unfold cut
  refine ab hL ?_
  have e1:clipAt L 4=min 4 L:=clipAt_nat L 4
  simp only[Option.elim]
  refine ab e1<|ab (clipAt_neg L 3 (Nat.succ_pos _):clipAt L (-3)=L - 3)<|ab (Nat.min_eq_left (by lia))<|ab ht<|ab (show L - 3 - 4=inner.length by lia)<|(?_:(inner++[41,92,90]).take inner.length=inner)
  simp
 have aV:(gI toks).length<=1000:=by refine ab ht ?_;simp;exact Nat.le_trans ‹_› (Nat.le_add_left _ _)
 refine FU (d1:=sd inner) (d3:=.int 0) ?_ aK rfl rfl rfl ?_
 ·refine v_cut (v_var rfl) (fg rfl aK) (fg rfl (rfl))<|ab (kL (Nat.le_trans ‹_› (Nat.le_add_left _ _))) ?_;rw[hcut]
 refine jx ?_ ?_
 ·refine aS (v_var (l:=.d (sd (gI toks))) rfl) (aU (aU bc (v_var (l:=.d (sd inner)) rfl) (mU (by simp;lia))) bc (mU (by simp;exact Nat.le_trans ‹_› (Nat.le_add_left _ _)))) ?_
  rw[wM,ht];simp
 refine pR (λk Z=>OM inner ((toks.take k).map Tk.item) (((toks.take k).flatMap Tk.out).length) Z) toks.length (Nat.lt_of_le_of_lt ‹_› (Nat.le_of_ble_eq_true rfl)) ⟨rfl,rfl,rfl,λx=>rfl,rfl⟩ (λk Z hk m=>?_) (λZ m=>?_) λZ m=>?_
 ·have hJ:inner=(toks.take k).flatMap Tk.out++(toks[k].out++(toks.drop (k+1)).flatMap Tk.out):=by
   refine rB hp ?_
   conv=>lhs;rw[<- List.take_append_drop k toks]
   refine ab List.flatMap_append<|ab (List.drop_eq_getElem_cons hk) ?_;rw[List.flatMap_cons]
  have hpos:0 < toks[k].out.length:=by
   cases hq:toks[k]with
   | lit c=>refine(?_:0 < (eS c).length);unfold eS;refine bq (λ_=>?_) λ_=>?_<;>simp
   | cls c=>refine(?_:0 < (if c=91 then[91,92,91,93]else[91,c,93]).length);refine bq (λ_=>?_) λ_=>?_<;>simp
   | neg b=>simp[Tk.out]
   | any=>simp[Tk.out]
  have hi:((toks.take k).flatMap Tk.out).length < inner.length:=by
   have:=congrArg List.length hJ
   simp only[List.length_append]at this
   lia
  have hs:∀t,t < toks[k].out.length->inner[((toks.take k).flatMap Tk.out).length+t]? =toks[k].out[t]? :=λt ht=>by
   refine ab hJ<|ab (List.getElem?_append_right (Nat.le_add_right _ _)) ?_;rw[Nat.add_sub_cancel_left,List.getElem?_append_left ht]
  refine⟨aS (v_var m.fk) (ek (ay (v_var m.finner) aO) (tH (Nat.le_trans ‹_› (Nat.le_add_left _ _)))) (oK hi),?_⟩
  refine ah (Ht (N:=1000) m (Nat.le_trans ‹_› (Nat.le_add_left _ _)) (by rw[List.length_map,List.length_take];lia) (Nat.le_add_left _ _) (eX _ (List.getElem_mem hk)) hs) λaf h1 h2=>aJ af h1 ?_
  have e1:toks.take (k+1)=toks.take k++[toks[k]]:=by refine ab List.take_add_one<|ab (List.getElem?_eq_getElem hk) ?_;rfl
  refine(?_:OM inner ((toks.take (k+1)).map Tk.item) (((toks.take (k+1)).flatMap Tk.out).length) af)
  refine ab e1<|ab List.map_append<|ab List.flatMap_append<|ab List.length_append ?_
  simpa using h2
 ·rw[List.take_length,hp]at m
  exact aS (v_var m.fk) (ek (ay (v_var m.finner) aO) (tH (Nat.le_trans ‹_› (Nat.le_add_left _ _)))) (Ah (Nat.lt_irrefl _))
 ·rw[List.take_length,hp]at m
  exact qQ (v_var m.fitems) rfl
theorem zf:cV 204 (fD "_law_items" "_law_items" (aA 33) .none .none eM 203) (bu (aA 33)):=
 ⟨λP=>⟨_,rfl,rfl⟩,rfl,rfl,⟨203,rfl,by decide+kernel⟩,rfl,rfl,rfl,rfl,rfl⟩
theorem GO(toks:List Tk)(eX:∀t∈toks,t.Ok)(hz:(toks.flatMap Tk.out).length<=900)(hl:toks.length<=100):Fn 3 204 [sd (gI toks)] (cO (toks.map Tk.item)):=
 iG (n:=2) (K:=KI) 1000 pP zf (names:=["text"]) (md "text") rfl (of_decide_eq_true rfl) (by decide+kernel) BB (λc tz=>Mq c tz) (λ_ _ _ _ _=>gB) (Jm toks eX hz hl)
noncomputable def vr(a b:UInt8):String->List D->Option D
 | f,[.list l,.bytes t]=>(i3 l).bind λis=>if f="_law_signs"/\(is.all λi=>decide (0<=i)&&decide (i < 64))=true/\is.length<=4/\t=[a,b].toArray then some (mR a b (is.map Int.toNat))else none
 | _,_=>none
theorem Gw(row:List Nat):i3 (row.map λf:Nat=>D.int (f:Int))=some (row.map λf:Nat=>(f:Int)):=n9 _ row
theorem ut{a b:UInt8}{row:List Nat}(h:bN row):vr a b "_law_signs" [aj row,.bytes [a,b].toArray]=some (mR a b row):=by
 show(i3 (row.map λf:Nat=>D.int (f:Int))).bind _=_
 rw[Gw,Option.bind_some]
 rw[if_pos ⟨rfl,List.all_eq_true.mpr λi hi=>by
  refine ah (List.mem_map.mp hi) λf hf am=>rB am ?_
  have:=h.2 f hf
  rw[decide_eq_true (Int.natCast_nonneg _),decide_eq_true (by lia)];rfl,by rw[List.length_map];exact h.1,rfl⟩,List.map_map]
 congr 2
 exact List.map_id'' (λf=>Int.toNat_natCast f) row
set_option tactic.hygienic true in
theorem KU{a b:UInt8}{f:String}{ds:List D}{r:D}(h:vr a b f ds=some r):∃row,bN row/\f="_law_signs"/\ds=[aj row,.bytes [a,b].toArray]/\r=mR a b row:=by
 cases ds with | nil=>cases h | cons d1 ds=>
 obtain⟨l,rfl⟩:∃l,d1=.list l:=by cases d1 with | list x=>exact⟨_,rfl⟩ | _=>exact nS h
 cases ds with | nil=>cases h | cons d2 ds=>
 obtain⟨t,rfl⟩:∃t,d2=.bytes t:=by cases d2 with | bytes x=>exact⟨_,rfl⟩ | _=>exact nS h
 cases ds with | cons _ _=>cases h | nil=>
 replace h:=Option.bind_eq_some_iff.mp h
 obtain⟨is,hi,h⟩:=h
 ·skip
  ·skip
   have bd:=ki h;clear h
   have hc:=bd.1
   have h:=bd.2;clear bd
   refine jh hc λc1 c2 c3 dH=>ab dH<|aC h<|⟨is.map Int.toNat,⟨by exact Nat.le_trans (Nat.le_of_eq (List.length_map _)) ‹_›,λx hx=>?_⟩,c1,?_,rfl⟩
   ·refine ah (List.mem_map.mp hx) λi eZ am=>rB am ?_
    have:=List.all_eq_true.mp c2 i eZ
    simp only[Bool.and_eq_true,decide_eq_true_eq]at this
    lia
   ·rw[qb hi]
    congr 1
    show D.list _=D.list _
    congr 1
    rw[List.map_map]
    apply List.map_congr_left
    intro i eZ
    have:=List.all_eq_true.mp c2 i eZ
    simp only[Bool.and_eq_true,decide_eq_true_eq]at this
    show D.int i=D.int ((i.toNat:Nat):Int)
    congr 1;lia
noncomputable def KP(a b:UInt8):aI:=⟨vr a b,gR,λ_ _ _=>none,λ_ _=>none⟩
theorem Ar{a b:UInt8}(ha:a.toNat < 128)(hb:b.toNat < 128)(c:Cx)(tz:c.tz):bQ c 4 (KP a b):=by
 refine⟨tz,λf ds r h=>?_,(λ_ _ _ _ h _ _=>ox h),λ_ _ _ _ h=>nomatch h⟩
 refine gC (KU h) λrow hr am dH ob4=>ab am<|ab dH<|ab ob4 ?_
 exact⟨185,_,_,zd,ej (by decide+kernel),GM hr ha hb⟩
noncomputable def gj(ax:List Nat)(acc:List Nat)(row:List Nat):List Nat:=if(row.take ax.length==ax&&!decide (row.getD ax.length 0∈acc))=true then acc++[row.getD ax.length 0]else acc
noncomputable def cZ(ax:List Nat)(ae:List (List Nat)):List Nat:=ae.foldl (gj ax) []
noncomputable def ff(s:Nat):List Nat:=if s∈[91,42,63]then[91,s,93]else[s]
noncomputable def dc(s:List Nat):List Nat:=s.filter (λx=>decide (x=93))++s.filter (λx=>!decide (x∈[93,45]))++s.filter (λx=>decide (x=45))
noncomputable def lw(a b:UInt8)(ax:List Nat)(ae:List (List Nat)):List (List Nat):=
 (ax.map λf=>ff (dn a b f))++[[91,33]++dc ((cZ ax ae).map (dn a b))++[93]]++List.replicate (3 - ax.length) [63]
theorem uj{K:aI}{Z:Ctx}:pe K Z (.neg (.int 1))=some (.d (.int (-1))):=rfl
theorem qe{K:aI}{Z:Ctx}{x y:E}{a b:List Nat}(h1:pe K Z x=some (.d (sd a)))(h2:pe K Z y=some (.d (sd b)))(h:a.length+b.length<=1000000):pe K Z (.bin .Add x y)=some (.d (sd (a++b))):=aU h1 h2 (mU h)
theorem sW(ax:List Nat)(ae:List (List Nat)):∀(acc:List Nat),(ae.foldl (gj ax) acc).length<=acc.length+ae.length:=by
 induction ae with
 | nil=>
  intro acc
  simp
 | cons r ae ih=>
  intro acc
  rw[List.foldl_cons]
  have:=ih (gj ax acc r)
  have h2:(gj ax acc r).length<=acc.length+1:=by unfold gj;split<;>simp
  simp only[List.length_cons];lia
theorem Gf(ax:List Nat)(ae:List (List Nat)):∀(acc:List Nat),(∀r∈ae,bN r)->(∀f∈acc,f < 64)->∀f∈ae.foldl (gj ax) acc,f < 64:=by
 induction ae with
 | nil=>
  intro acc _ h
  exact h
 | cons r ae ih=>
  intro acc hr h
  rw[List.foldl_cons]
  refine ih _ (λx hx=>hr x (List.mem_cons_of_mem _ hx)) λf hf=>?_
  unfold gj at hf
  split at hf
  ·rcases List.mem_append.mp hf with h' | h'
   ·exact h f h'
   ·rw[List.mem_singleton.mp h']
    exact jw (hr r List.mem_cons_self) _
  ·exact h f hf
theorem any_ints(k:Nat)(l:List Nat):((l.map λf:Nat=>D.int (f:Int)).any λe=>bA e (.int (k:Int)))=decide (k∈l):=by
 induction l with
 | nil=>rfl
 | cons y r ih=>
  rw[List.map_cons,List.any_cons,ih,Bool.eq_iff_iff,Bool.or_eq_true,decide_eq_true_iff,decide_eq_true_iff,List.mem_cons]
  refine or_congr_left<|(?_:((y:Int)==(k:Int))=true↔_)
  rw[beq_iff_eq];lia
theorem Dh(k:Nat)(l:List Nat):dg .NotIn (.d (.int (k:Int))) (.own (l.map λf:Nat=>D.int (f:Int)))=some (!decide (k∈l)):=
 fM ((x9 (a:=.d (.int (k:Int))) rfl rfl λe he=>ah (List.mem_map.mp he) λx _ h=>h▸rfl).trans (congrArg some (any_ints k l)))
theorem Ix{B:Nat}(xs:List (List Nat)):(∀x∈xs,x.length<=B)->(xs.map (·.length)).sum<=B * xs.length:=by
 induction xs with
 | nil=>
  intro _
  exact Nat.le_refl _
 | cons x r ih=>
  intro h
  have h1:=h x List.mem_cons_self
  have h2:=ih λy hy=>h y (List.mem_cons_of_mem _ hy)
  rw[List.map_cons,List.sum_cons,List.length_cons,Nat.mul_add];lia
theorem qu{sep:List Nat}{xs:List (List Nat)}{l:LV}(hl:bD l=some (xs.map sd))(hs:sep.length<=10)(hx:∀x∈xs,x.length<=100)(hn:xs.length<=100):gR .join (.d (sd sep)) [l]=some (sd (bT sep xs)):=by
 have h1:=Ix xs hx
 have h2:xs.length * sep.length<=100 * 10:=Nat.mul_le_mul hn hs
 have e:ft .join (.d (sd sep)) [l]=some (sd (bT sep xs)):=by
  rw[wP]
  simp only[da,hl,Option.bind_some,sx]
  rw[if_pos (by lia)]
 exact mT e
theorem B7(l:List Nat):bT [] (l.map λs=>[s])=l:=by
 have hj:∀zs:List (List Nat),bT [] zs=zs.flatten:=by
  intro zs
  induction zs with
  | nil=>rfl
  | cons a r ih2=>cases r with
   | nil=>simp[bT]
   | cons b r=>rw[bT,ih2];simp
 rw[hj]
 induction l with
 | nil=>rfl
 | cons a r ih=>rw[List.map_cons,List.flatten_cons,ih];rfl
theorem Fa{a b:UInt8}{ax:List Nat}{ae:List (List Nat)}(hf:bN ax)(hf3:ax.length<=3)(hr:∀r∈ae,bN r)(hl:ae.length<=10)(hlong:∀r∈ae,r.take ax.length=ax->ax.length < r.length):
  ps (KP a b) 0 [("front",.d (aj ax)),("rows",.d (bk ae)),("other",.d (.bytes [a,b].toArray))] pJ=some (.ret (sd (bT [46] (lw a b ax ae)))):=by
 unfold pJ
 refine ba (d:=.list ((ax.map (dn a b)).map λs=>sd (ff s))) ?_ ?_
 ·refine gH (ax.map (dn a b)) (λs=>sd [s]) (λs=>sd (ff s)) (dT (ds:=(ax.map (dn a b)).map λs=>sd [s]) ?_) rfl (by rw[List.length_map];lia) λs hs=>?_
  ·have:=fc (K:=KP a b) (Z:=[("front",.d (aj ax)),("rows",.d (bk ae)),("other",.d (.bytes [a,b].toArray))]) (f:="_law_signs") (ay (e:=.var "front") (v_var rfl) (ay (e:=.var "other") (v_var rfl) aO)) rfl (ut hf)
   rw[this]
   unfold mR
   rw[List.map_map];rfl
  ·refine v_ite (aS (v_var rfl) bc (DF s [91,42,63])) (λh=>?_) λh=>?_
   ·have hp:ff s=[91]++[s]++[93]:=by unfold ff;rw[if_pos (by simpa using h)];rfl
    rw[hp]
    exact qe (qe bc (v_var rfl) (by simp)) bc (by simp)
   ·have hp:ff s=[s]:=by unfold ff;rw[if_neg (by simpa using h)]
    rw[hp]
    exact v_var rfl
 refine lW rfl ?_
 let M:List (List Nat)->Ctx->Prop:=λdone Z=>find Z "front"=some (.d (aj ax))/\find Z "rows"=some (.d (bk ae))/\find Z "other"=some (.d (.bytes [a,b].toArray))/\find Z "parts"=some (.d (.list ((ax.map (dn a b)).map λs=>sd (ff s))))/\find Z "nexts"=some (.own ((cZ ax done).map λf:Nat=>D.int (f:Int)))/\d8 Z "nexts"=true
 refine w0 aj ae M (dT (v_var rfl)) ⟨rfl,rfl,rfl,rfl,rfl,rfl⟩ (λdone row suf Z hJ hM=>?_) λZ hM=>?_
 ·refine my hM λm1 m2 m3 m4 m5 m6=>?_
  have hrow:row∈ae:=by rw[<- hJ];simp
  have hdl:done.length<=10:=by have:=congrArg List.length hJ;simp at this;lia
  have hnl:(cZ ax done).length<=10:=by have:=sW ax done [];unfold cZ;simp at this;lia
  have f1:∀x,x≠"row"->find (upd Z "row" (.d (aj row))) x=find Z x:=λx hx=>by rw[ai,if_neg (Ne.symm hx)]
  have n1:=f1 "front" (by decide)
  have n5:=f1 "nexts" (by decide)
  rw[m1]at n1
  rw[m5]at n5
  have nr:find (upd Z "row" (.d (aj row))) "row"=some (.d (aj row)):=by rw[ai,if_pos rfl]
  have hstep:cZ ax (done++[row])=gj ax (cZ ax done) row:=by unfold cZ;rw[List.foldl_append];rfl
  have keep:∀af,af=upd Z "row" (.d (aj row))->find af "front"=some (.d (aj ax))/\find af "rows"=some (.d (bk ae))/\find af "other"=some (.d (.bytes [a,b].toArray))/\find af "parts"=some (.d (.list ((ax.map (dn a b)).map λs=>sd (ff s))))/\d8 af "nexts"=true:=λaf e=>by
   subst e
   exact⟨n1,by rw[f1 _ (by decide)];exact m2,by rw[f1 _ (by decide)];exact m3,by rw[f1 _ (by decide)];exact m4,fJ m6 λ_ h=>nomatch h⟩
  have aV:pe (KP a b) (upd Z "row" (.d (aj row))) (.bcall .len [.var "front"])=some (.d (.int (ax.length:Int))):=j5 (v_var n1) (by lia)
  have hrl:=(hr row hrow).1
  have ht1:pt (KP a b) (upd Z "row" (.d (aj row))) (.cmp .Eq (.cut (.var "row") .absent (.bcall .len [.var "front"])) (.var "front"))=some (row.take ax.length==ax):=aS (lG (v_var nr) rfl aV (by lia)) (v_var n1) (sO _ _)
  have hitem:(row.take ax.length==ax)=true->pe (KP a b) (upd Z "row" (.d (aj row))) (.item (.var "row") (.bcall .len [.var "front"]))=some (.d (.int ((row.getD ax.length 0:Nat):Int))):=λh=>by
   have bl:=hlong row hrow (eq_of_beq h)
   refine cS (v_var nr) aV (item_list (ds:=row.map λf:Nat=>D.int (f:Int)) rfl ?_ (by rw[List.length_map];lia))
   rw[List.getElem?_map,List.getElem?_eq_getElem bl,List.getD_eq_getElem?_getD,List.getElem?_eq_getElem bl];rfl
  have ht:=kf (K:=KP a b) ht1 λh=>aS (hitem h) (v_var n5) (Dh _ _)
  by_cases hc:(row.take ax.length==ax&&!decide (row.getD ax.length 0∈cZ ax done))=true
  ·have h1:(row.take ax.length==ax)=true:=by rw[Bool.and_eq_true]at hc;exact hc.1
   refine⟨_,jz (ht.trans (by rw[hc])) (kF n5 (hitem h1) (by rw[List.length_map];lia) bo) bo,?_⟩
   have aw:=keep _ rfl
   have k1:=aw.1
   have k2:=aw.2.1
   have k3:=aw.2.2.1
   have k4:=aw.2.2.2.1
   have k6:=aw.2.2.2.2
   refine⟨?_,?_,?_,?_,?_,fJ k6 λ_ h=>nomatch h⟩<;>rw[ai]<;>first | (rw[if_neg (by decide)];assumption) | skip
   rw[if_pos rfl,hstep]
   unfold gj
   rw[if_pos hc,List.map_append];rfl
  ·refine⟨_,jx (ht.trans (by rw[Bool.not_eq_true]at hc;rw[hc])) bo,?_⟩
   have aw:=keep _ rfl
   have k1:=aw.1
   have k2:=aw.2.1
   have k3:=aw.2.2.1
   have k4:=aw.2.2.2.1
   have k6:=aw.2.2.2.2
   refine⟨k1,k2,k3,k4,?_,k6⟩
   rw[n5,hstep]
   unfold gj
   rw[if_neg hc]
 ·refine my hM λm1 m2 m3 m4 m5 m6=>?_
  have hnl:(cZ ax ae).length<=10:=by have:=sW ax ae [];unfold cZ;simp at this;lia
  have hn64:∀f∈cZ ax ae,f < 64:=Gf ax ae [] hr (λ_ h=>nomatch h)
  generalize hN:cZ ax ae=nx at m5 hnl hn64
  have hpp:lw a b ax ae=(ax.map λf=>ff (dn a b f))++[[91,33]++dc (nx.map (dn a b))++[93]]++List.replicate (3 - ax.length) [63]:=by unfold lw;rw[hN]
  rw[hpp]
  refine tw m5 m6 ?_
  generalize hG1:upd Z "nexts" (.d (.list (nx.map λf:Nat=>D.int (f:Int))))=jg
  have g1:find jg "front"=some (.d (aj ax)):=by rw[<- hG1,ai,if_neg (by decide)];exact m1
  have g3:find jg "other"=some (.d (.bytes [a,b].toArray)):=by rw[<- hG1,ai,if_neg (by decide)];exact m3
  have g4:find jg "parts"=some (.d (.list ((ax.map (dn a b)).map λs=>sd (ff s)))):=by rw[<- hG1,ai,if_neg (by decide)];exact m4
  have g5:find jg "nexts"=some (.d (.list (nx.map λf:Nat=>D.int (f:Int)))):=by rw[<- hG1,ai,if_pos rfl]
  refine ba (d:=.list ((nx.map (dn a b)).map λs=>sd [s])) ?_ ?_
  ·rw[List.map_map]
   refine gH nx (λf:Nat=>.int (f:Int)) (λf=>sd [dn a b f]) (dT (v_var g5)) (cs:=[("front",aj ax),("other",.bytes [a,b].toArray)]) (by simp[fo,g1,g3]) (by lia) λf e9=>?_
   have eX:bN (ax++[f]):=⟨by simp;lia,λx hx=>by
    rcases List.mem_append.mp hx with h | h
    ·exact hf.2 x h
    ·rw[List.mem_singleton.mp h];exact hn64 f e9⟩
   have hcat:cX .Add (.d (aj ax)) (.d (.list [.int (f:Int)]))=some (aj (ax++[f])):=by
    rw[iz (x:=ax.map λf:Nat=>D.int (f:Int)) (y:=[.int (f:Int)]) rfl rfl (by simp;lia)]
    show some (D.list _)=some (D.list _)
    rw[List.map_append];rfl
   refine cS (fc (ay (aU (v_var rfl) (fO (ay (v_var rfl) aO) rfl (by simp)) hcat) (ay (v_var rfl) aO)) rfl (ut eX)) uj (item_last (ds:=(ax++[f]).map λf=>sd [dn a b f]) rfl (by simp) (by simp;lia))
  generalize hsg:nx.map (dn a b)=sg
  have hsl:sg.length<=10:=by rw[<- hsg,List.length_map];exact hnl
  generalize hG2:upd jg "barred" (.d (.list (sg.map λs=>sd [s])))=cH
  have q1:find cH "front"=some (.d (aj ax)):=by rw[<- hG2,ai,if_neg (by decide)];exact g1
  have q4:find cH "parts"=some (.d (.list ((ax.map (dn a b)).map λs=>sd (ff s)))):=by rw[<- hG2,ai,if_neg (by decide)];exact g4
  have q5:find cH "barred"=some (.d (.list (sg.map λs=>sd [s]))):=by rw[<- hG2,ai,if_pos rfl]
  have fl:∀p:Nat->Bool,(sg.filter p).length<=10:=λp=>Nat.le_trans (List.length_filter_le _ _) hsl
  refine ba (d:=.list ((dc sg).map λs=>sd [s])) ?_ ?_
  ·have c1:=j6 (K:=KP a b) (Z:=cH) (x:="sign") (aL:=.no) (an:=[]) (cs:=[]) (it:=.var "barred") (elt:=.var "sign") (test:=.cmp .Eq (.var "sign") (.str [93])) sg (λs=>sd [s]) (λx=>decide (x=93)) (λs=>sd [s]) (dT (v_var q5)) rfl (by lia) (λs hs=>aS (v_var rfl) bc (fQ _ _)) λs hs _=>v_var rfl
   have c2:=j6 (K:=KP a b) (Z:=cH) (x:="sign") (aL:=.no) (an:=[]) (cs:=[]) (it:=.var "barred") (elt:=.var "sign") (test:=.cmp .NotIn (.var "sign") (.str [93,45])) sg (λs=>sd [s]) (λx=>!decide (x∈[93,45])) (λs=>sd [s]) (dT (v_var q5)) rfl (by lia) (λs hs=>aS (v_var rfl) bc (vM _ _)) λs hs _=>v_var rfl
   have c3:=j6 (K:=KP a b) (Z:=cH) (x:="sign") (aL:=.no) (an:=[]) (cs:=[]) (it:=.var "barred") (elt:=.var "sign") (test:=.cmp .Eq (.var "sign") (.str [45])) sg (λs=>sd [s]) (λx=>decide (x=45)) (λs=>sd [s]) (dT (v_var q5)) rfl (by lia) (λs hs=>aS (v_var rfl) bc (fQ _ _)) λs hs _=>v_var rfl
   have h1:=fl λx=>decide (x=93)
   have h2:=fl λx=>!decide (x∈[93,45])
   have h3:=fl λx=>decide (x=45)
   unfold dc
   rw[List.map_append,List.map_append]
   exact aU (aU c1 c2 (iz rfl rfl (by rw[List.length_map,List.length_map];lia))) c3 (iz rfl rfl (by rw[List.length_append,List.length_map,List.length_map,List.length_map];lia))
  have hbl:(dc sg).length<=30:=by
   have h1:=fl λx=>decide (x=93)
   have h2:=fl λx=>!decide (x∈[93,45])
   have h3:=fl λx=>decide (x=45)
   unfold dc;rw[List.length_append,List.length_append];lia
  generalize hG3:upd cH "barred" (.d (.list ((dc sg).map λs=>sd [s])))=dY
  have w1:find dY "front"=some (.d (aj ax)):=by rw[<- hG3,ai,if_neg (by decide)];exact q1
  have w4:find dY "parts"=some (.d (.list ((ax.map (dn a b)).map λs=>sd (ff s)))):=by rw[<- hG3,ai,if_neg (by decide)];exact q4
  have w5:find dY "barred"=some (.d (.list ((dc sg).map λs=>sd [s]))):=by rw[<- hG3,ai,if_pos rfl]
  have hjb:pe (KP a b) dY (.meth (.str []) .join [.var "barred"])=some (.d (sd (dc sg))):=by
   have:=jv (K:=KP a b) (Z:=dY) (o:=.str []) (m:=.join) bc (ay (v_var w5) aO) (qu (sep:=[]) (xs:=(dc sg).map λs=>[s]) (l:=.d (.list ((dc sg).map λs=>sd [s]))) (by rw[List.map_map];rfl) (by simp) (λx hx=>by refine ah (List.mem_map.mp hx) λs _ am=>rB am ?_;simp) (by rw[List.length_map];lia))
   rwa [B7]at this
  have hbr:pe (KP a b) dY (.bin .Add (.bin .Add (.str [91,33]) (.meth (.str []) .join [.var "barred"])) (.str [93]))=some (.d (sd ([91,33]++dc sg++[93]))):=qe (qe bc hjb (by simp;lia)) bc (by simp;lia)
  have hsub:pe (KP a b) dY (.bin .Sub (.int 3) (.bcall .len [.var "front"]))=some (.d (.int ((3 - ax.length:Nat):Int))):=by
   refine aU aK (j5 (v_var w1) (by lia)) ?_
   rw[qy];congr 2;lia
  have hrep:pe (KP a b) dY (.bin .Mult (.list [.str [63]]) (.bin .Sub (.int 3) (.bcall .len [.var "front"])))=some (.d (.list ((List.replicate (3 - ax.length) [63]).map sd))):=by
   refine aU (fO (ay bc aO) rfl (by simp)) hsub ?_
   rw[y4 (x:=[sd [63]]) rfl (by simp;lia) (by lia)]
   congr 2
   induction 3 - ax.length with
   | zero=>rfl
   | succ k ih=>rw[List.replicate_succ,List.flatten_cons,ih,List.replicate_succ,List.map_cons];rfl
  have ie:pe (KP a b) dY (.bin .Add (.bin .Add (.var "parts") (.list [.bin .Add (.bin .Add (.str [91,33]) (.meth (.str []) .join [.var "barred"])) (.str [93])])) (.bin .Mult (.list [.str [63]]) (.bin .Sub (.int 3) (.bcall .len [.var "front"]))))=
    some (.d (.list (((ax.map λf=>ff (dn a b f))++[[91,33]++dc sg++[93]]++List.replicate (3 - ax.length) [63]).map sd))):=by
   rw[List.map_append,List.map_append,List.map_map]
   rw[List.map_map]at w4
   refine aU (aU (v_var w4) (fO (ay hbr aO) rfl (by simp)) (iz rfl rfl (by simp;lia))) hrep (iz rfl rfl (by simp;lia))
  refine jy (jv bc (ay ie aO) (qu rfl (by simp) (λx hx=>?_) (by simp;lia)))
  rcases List.mem_append.mp hx with h | h
  ·rcases List.mem_append.mp h with h | h
   ·refine ah (List.mem_map.mp h) λf _ am=>rB am ?_
    unfold ff;split<;>simp
   ·rw[List.mem_singleton.mp h];simp;lia
  ·rw[List.eq_of_mem_replicate h];simp
theorem xC:cV 190 (fD "_law_pattern" "_law_pattern" (aA 31) .none .none eM 189) (bu (aA 31)):=
 ⟨λP=>⟨_,rfl,rfl⟩,rfl,rfl,⟨189,rfl,by decide+kernel⟩,rfl,rfl,rfl,rfl,rfl⟩
theorem Dv{a b:UInt8}{ax:List Nat}{ae:List (List Nat)}(ha:a.toNat < 128)(hb:b.toNat < 128)(hf:bN ax)(hf3:ax.length<=3)(hr:∀r∈ae,bN r)(hl:ae.length<=10)(hlong:∀r∈ae,r.take ax.length=ax->ax.length < r.length):
  Fn 5 190 [aj ax,bk ae,.bytes [a,b].toArray] (sd (bT [46] (lw a b ax ae))):=
 iG (n:=4) (K:=KP a b) 0 pJ xC (names:=["front","rows","other"]) (ny "front" "rows" "other") rfl (of_decide_eq_true rfl) (by decide+kernel) Bc (λc tz=>Ar ha hb c tz) (λ_ _ _ _ _=>gB) (Fa hf hf3 hr hl hlong)
noncomputable def mi(s:Nat):Tk:=if s∈[91,42,63]then .cls s else .lit s
noncomputable def fY:List Tk->List Tk
 | []=>[]
 | [x]=>[x]
 | x::y::r=>x::.lit 46::fY (y::r)
noncomputable def jr(a b:UInt8)(ax:List Nat)(ae:List (List Nat)):List Tk:=
 (ax.map λf=>mi (dn a b f))++[.neg (dc ((cZ ax ae).map (dn a b)))]++List.replicate (3 - ax.length) .any
theorem FG(s:Nat):(mi s).src=ff s:=by
 delta mi ff
 split<;>rfl
theorem xj:∀l:List Tk,bT [46] (l.map Tk.src)=(fY l).flatMap Tk.src
 | []=>rfl
 | [x]=>by simp[bT,fY]
 | x::y::r=>by
  refine ab List.map_cons<|ab List.map_cons ?_;rw[bT,<- List.map_cons,xj (y::r),fY,List.flatMap_cons,List.flatMap_cons,<- List.append_assoc]
  rfl
theorem FZ(a b:UInt8)(ax:List Nat)(ae:List (List Nat)):bT [46] (lw a b ax ae)=(fY (jr a b ax ae)).flatMap Tk.src:=by
 rw[<- xj]
 congr 1
 delta lw jr
 refine ab List.map_append<|ab List.map_append<|ab List.map_map<|ab List.map_replicate ?_
 congr 1
 congr 1
 apply List.map_congr_left
 intro f _
 exact(FG _).symm
noncomputable def km:List bZ->List bZ
 | []=>[]
 | [x]=>[x]
 | x::y::r=>x::(false,[46])::km (y::r)
theorem wB:∀l:List Tk,(fY l).map Tk.item=km (l.map Tk.item)
 | []=>rfl
 | [x]=>rfl
 | x::y::r=>by
  rw[fY,List.map_cons,List.map_cons,wB (y::r)];rfl
theorem EL(s:Nat):(mi s).item=(false,[s]):=by
 unfold mi
 refine bq (λ_=>?_) λ_=>?_<;>rfl
noncomputable def kg:D->Option (List Nat)
 | .list l=>(i3 l).bind λis=>if is.all (λi=>decide (0<=i))then some (is.map Int.toNat)else none
 | _=>none
noncomputable def rowsOf:D->Option (List (List Nat))
 | .list l=>l.mapM kg
 | _=>none
theorem sB(r:List Nat):kg (aj r)=some r:=by
 show(i3 (r.map λf:Nat=>D.int (f:Int))).bind _=_
 rw[n9 (λf:Nat=>(f:Int)) r,Option.bind_some,if_pos (List.all_eq_true.mpr λi hi=>by
  exact ah (List.mem_map.mp hi) λf _ am=>rB am<|decide_eq_true (Int.natCast_nonneg _)),List.map_map]
 congr 1
 exact List.map_id'' (λf=>Int.toNat_natCast f) r
set_option tactic.hygienic true in
theorem tr{d:D}{r:List Nat}(h:kg d=some r):d=aj r:=by
 unfold kg at h
 split at h
 ·rename_i l
  refine bE h λis h1 h2=>?_
  split at h2
  ·rename_i hc
   refine aC h2<|ab (qb h1) ?_
   congr 1
   refine ab List.map_map ?_
   apply List.map_congr_left
   intro i hi
   have:=List.all_eq_true.mp hc i hi
   simp only[decide_eq_true_eq]at this
   congr 1;exact Eq.symm (Int.toNat_of_nonneg ‹_›)
  ·exact nS h2
 ·exact nS h
noncomputable def kU:List D->Option (List (List Nat))
 | []=>some []
 | d::r=>(kg d).bind λx=>(kU r).map (x::·)
theorem sT:∀ae:List (List Nat),kU (ae.map aj)=some ae
 | []=>rfl
 | r::ae=>by refine ab List.map_cons ?_;rw[kU,sB,sT ae];rfl
theorem tq:∀{l:List D} {ae:List (List Nat)},kU l=some ae->l=ae.map aj
 | [],_,h=>by refine aC h ?_;rfl
 | d::r,ae,h=>by
  refine bE h λx h1 h2=>ah (Option.map_eq_some_iff.mp h2) λys h3 am=>rB am<|ab List.map_cons<|rB (tq h3) ?_;rw[<- tr h1]
noncomputable def mr(bj:List Nat)(ae aR:List (List Nat)):Option D:=
 if(ae.filter (dy bj)).isEmpty then
  (mo ((aR.filter (dy bj)).map λr=>((r.length:Nat):Int))).bind λm=>(aR.findIdx? λr=>r==bj.take m.toNat).map λj:Nat=>.list [.int 0,.list [.int (j:Int)]]
 else some (.list [.int 1,.list []])
theorem IT{bj:List Nat}{ae aR:List (List Nat)}{d:D}(hf:bj.length<=4)(hr:∀r∈ae,r.length<=4)(hl:ae.length<=1000)(gF:∀r∈aR,r.length<=4)(hfl:aR.length<=1000)(h:mr bj ae aR=some d):Fn 1 219 [aj bj,bk ae,bk aR] d:=by
 unfold mr at h
 cases hc:(ae.filter (dy bj)).isEmpty with
 | false=>
  rw[hc,if_neg (of_decide_eq_true rfl)]at h
  exact aC h<|Dw hf hr hl hc
 | true=>
  replace h:=(if_pos rfl)▸hc▸h
  refine bE h λm h1 h2=>ah (Option.map_eq_some_iff.mp h2) λj h3 am=>rB am ?_
  have hm:m=((m.toNat:Nat):Int):=by
   refine ah (List.mem_map.mp ((qs h1).1)) λr _ e=>?_
   lia
  rw[hm]at h1
  exact CE hf hr hl gF hfl hc h1 h3
theorem LQ(P:Params):makesIn (Mine.K P) 171=true:=by rfl
theorem IE(P:Params):findIn (Mine.K P) (.ref 171) "__init__"=some (some (.ref 161)):=by rfl
theorem Gg(P:Params):findIn (Mine.K P) (.ref 171) "names"=some (some (.ref 168)):=by rfl
theorem qU(P:Params):findIn (Mine.K P) (.ref 171) "__getattribute__"=some (some (.builtin "object.__getattribute__")):=by rfl
theorem L5(P:Params):findIn (Mine.K P) (.ref 171) "__getattr__"=some none:=by rfl
theorem Ln(P:Params):typeIn (Mine.K P) (.ref 161)=some (.type "function"):=by rfl
section
theorem BW{t t':SetTable}{hs:Array Int}{n:Nat}{o:Array Nat}(h:t.plain=false)(e:t.relaid hs n=some (t',o)):t'.plain=false:=by
 refine bE e λow _ e=>?_
 cases e
 exact h
set_option tactic.hygienic true in
theorem Bg{t:SetTable}(h:t.plain=false)(es:Array (Int×Value))(n:Nat):(relayAll t es n).2.1.plain=false:=by
 unfold relayAll
 split
 ·rename_i t' o e
  dsimp only
  refine bq (λ_=>?_) λ_=>?_
  ·exact BW h e
  ·rfl
 ·rfl
theorem B6{t:SetTable}(h:t.plain=false)(es:Array (Int×Value))(k:Int)(x:Value):(layNew t es k x).2.1.plain=false:=by
 unfold layNew
 split
 ·delta SetTable.orStandIn SetTable.put
  dsimp only
  refine bq (λ_=>?_) λ_=>?_<;>refine bq (λ_=>?_) λ_=>?_<;>first | exact h | rfl
 ·rfl
section
variable {w:World}
structure fG(w:World)(h:Heap)(a:Addr)(S:Str->Bool)(m:Nat)(o:Obj)(es:Array (Int×Value))(ep:Nat)(t:SetTable):Prop where
 at_:h.get? a=some o
 ex:o.ExactSet
 data:o.data=.set es ep t
 el:ElemsOf (PySem.strKind pg w) es.toList
 mem:∀k,S k=true↔∃e∈es.toList,Value.isStrOf k e.2=true
 lt:es.size < scanBound
 fits:t.fits es.size=true
 plain:0 < es.size->t.plain=false
 le:es.size<=m
noncomputable def SSet(w:World)(h:Heap)(a:Addr)(S:Str->Bool)(m:Nat):Prop:=∃o es ep t,fG w h a S m o es ep t
theorem fG.of{h:Heap}{a:Addr}{S:Str->Bool}{m:Nat}{o:Obj}{es:Array (Int×Value)}{ep:Nat}{t:SetTable}(x:fG w h a S m o es ep t):h.SetOf (PySem.strKind pg w) a S es.size:=
 ⟨o,es,ep,t,x.at_,x.ex,x.data,x.el,x.mem,x.lt,x.fits,rfl⟩
theorem SSet.keeps{h h':Heap}{a:Addr}{S:Str->Bool}{m:Nat}(x:SSet w h a S m)(k:∀o,h.get? a=some o->h'.get? a=some o):SSet w h' a S m:=by
 exact nK x λo es ep t y=>M0 o es ep t ⟨k _ y.at_,y.ex,y.data,y.el,y.mem,y.lt,y.fits,y.plain,y.le⟩
variable {A:Around} {E:Value->Shared->Prop} {s:Shared}
theorem HM{a:Addr}{S:Str->Bool}{m:Nat}{k:Str}{u:Tok}{Q:Value->Shared->Prop}(x:SSet w s.heap a S m)(h:Q (.bool (S k)) {s with toks:=s.toks+1}):wpAny (model pg w) A (compareOp .In (.str k u) (.ref a)) Q E s:=by
 exact nK x λo es ep t y=>wpAny_inSet_of (knd:=PySem.strKind pg w) (strKind_is _ _ _ _) rfl y.of h
theorem vZ{a:Addr}{S:Str->Bool}{m:Nat}{o:Obj}{es:Array (Int×Value)}{ep:Nat}{t:SetTable}(x:fG w s.heap a S m o es ep t){iN:Array (Int×Value)}{t':SetTable}{S':Str->Bool}{m':Nat}{Q:Unit->Shared->Prop}
  (hel:ElemsOf (PySem.strKind pg w) iN.toList) (eJ:∀k,S' k=true↔∃e∈iN.toList,Value.isStrOf k e.2=true) (hb:iN.size < scanBound) (hf:t'.fits iN.size=true) (hp:t'.plain=false) (hle:iN.size<=m')
  (h:∀h' o',Heap.SameBut a s.heap h'->fG w h' a S' m' o' iN (ep+1) t'->Q () {s with heap:=h'}):wpAny (model pg w) A (storeSet a iN t') Q E s:=by
 refine wpAny_storeSet_of x.at_ x.data ?_ (fits_of_scanBound hb)
 exact bR (SetOf_store (knd:=PySem.strKind pg w) x.at_ x.ex x.data hel eJ hb hf) λhg _=>h _ _ (Heap.SameBut.update s.heap a (Obj.putSet iN t')) ⟨hg,x.ex,rfl,hel,eJ,hb,hf,λ_=>hp,hle⟩
theorem FF{a:Addr}{S:Str->Bool}{m:Nat}{k:Str}{u:Tok}{Q:Bool->Shared->Prop}(x:SSet w s.heap a S m)(hm:m+1 < scanBound)
  (h:∀b h',Heap.SameBut a s.heap h'->SSet w h' a (λk'=>S k'||decide (k'=k)) (m+1)->Q b {s with heap:=h',toks:=s.toks+1}):wpAny (model pg w) A (setAdd a (.str k u)) Q E s:=by
 refine nK x λo es ep t y=>?_
 have hkey:(PySem.strKind pg w).is k (.str k u)=true:=strKind_is _ _ _ _
 refine wpAny_holding (wpAny_bind ((PySem.strKind pg w).pyHash hkey ?_))
 generalize hs:({s with toks:=s.toks+1}:Shared)=s1
 have e1:s1.heap=s.heap:=by exact rB hs rfl
 have hQ:∀b h',Heap.SameBut a s1.heap h'->SSet w h' a (λk'=>S k'||decide (k'=k)) (m+1)->Q b {s1 with heap:=h'}:=λb h' h1 h2=>by
  rw[e1]at h1
  exact rB hs<|(h b h' h1 h2)
 replace y:=e1▸y
 have hb1:es.size+1 < scanBound:=by have:=y.le;lia
 refine wpAny_holding (wpAny_bind (wpAny_setState_of y.at_ y.data y.fits ?_))
 dsimp only
 refine ab (byScan_of rfl y.lt y.el)<|ab (if_pos rfl)<|wpAny_bind (wpAny_bind (wpAny_rule (wpAny_bind (wpAny_setScan_of hkey y.at_ y.data y.fits y.el ?_))))
 cases hr:List.findIdx? (λe=>(PySem.strKind pg w).is k e.2) es.toList with
 | some j=>
  have aw:=List.findIdx?_eq_some_iff_getElem.mp hr
  have hj:=aw.1
  have hSk:S k=true:=(y.mem k).mpr ⟨es.toList[j],List.getElem_mem hj,aw.2.1⟩
  refine wpAny_pure (wpAny_pure ?_)
  have:=hQ false s1.heap (Heap.SameBut.refl a s1.heap) ⟨o,es,ep,t,y.at_,y.ex,y.data,y.el,λk'=>by
   rw[Bool.or_eq_true,decide_eq_true_eq,<- y.mem k']
   exact⟨λhk=>hk.elim id (λe=>e▸hSk),.inl⟩,y.lt,y.fits,y.plain,Nat.le_succ_of_le y.le⟩
  have e2:({s1 with heap:=s1.heap}:Shared)=s1:=by subst s1;rfl
  rwa [e2]at this
 | none=>
  have hgw:∀(b:Bool) {aD:Shared} {Q':Unit->Shared->Prop},Q' () aD->wpAny (model pg w) A (match b with | true=>rule "set.scan.the-table-gave-way" | false=>pure ()) Q' E aD:=
   λb aD Q' hq=>by cases b<;>first | exact wpAny_pure hq | exact wpAny_rule hq
  have hperm:=layNew_perm t es ((PySem.strKind pg w).hash k) (.str k u)
  have hfits:=layNew_fits t es ((PySem.strKind pg w).hash k) (.str k u)
  have dt:t.plain=false->(layNew t es ((PySem.strKind pg w).hash k) (.str k u)).2.1.plain=false:=λh=>B6 h _ _ _
  generalize hL:layNew t es ((PySem.strKind pg w).hash k) (.str k u)=L at hperm hfits dt⊢
  obtain⟨d4,t1,wasDummy,gave⟩:=L
  dsimp only at hperm hfits dt⊢
  replace hperm:=Array.toList_push▸hperm
  have hel1:ElemsOf (PySem.strKind pg w) d4.toList:=(y.el.push hkey rfl).perm hperm
  have hmem1:∀k',(S k'||decide (k'=k))=true↔∃e∈d4.toList,Value.isStrOf k' e.2=true:=mem_push_iff (knd:=PySem.strKind pg w) hkey y.mem hperm
  have hsz1:d4.size=es.size+1:=by refine rB Array.length_toList<|ab hperm.length_eq<|ab List.length_append<|ab Array.length_toList ?_;rfl
  have hb1':d4.size < scanBound:=by exact ab hsz1 hb1
  have hle1:d4.size<=m+1:=by refine ab hsz1 ?_;have:=y.le;exact Nat.lt_succ_of_le ‹_›
  refine wpAny_bind (hgw _ ?_)
  have tail:∀t2:SetTable,t2.fits d4.size=true->t2.plain=false->wpAny (model pg w) A (do
    storeSet a d4 t2
    if(!wasDummy&&t2.tooFull)=true then do
      (match(relayAll t2 d4 (SetTable.grown d4.size)).2.2 with | true=>rule "set.scan.the-table-gave-way" | false=>pure ())
      storeSet a (relayAll t2 d4 (SetTable.grown d4.size)).1 (relayAll t2 d4 (SetTable.grown d4.size)).2.1
      pure (some true)
     else pure (some true)) (λr s'=>r=some true/\Q true s') E s1:=λt2 hf2 eW=>by
   refine wpAny_bind (vZ y hel1 hmem1 hb1' hf2 eW hle1 λh1 o1 cz y1=>?_)
   refine bq (λ_=>?_) λ_=>?_
   ·have hp:=relayAll_perm t2 d4 (SetTable.grown d4.size)
    have gF:=relayAll_fits t2 d4 (SetTable.grown d4.size)
    have hpr:=Bg eW d4 (SetTable.grown d4.size)
    generalize relayAll t2 d4 (SetTable.grown d4.size)=Rl at hp gF hpr⊢
    obtain⟨es2,t3,gave2⟩:=Rl
    dsimp only at hp gF hpr⊢
    have cj:es2.size=d4.size:=by refine rB Array.length_toList<|ab hp.length_eq ?_;rw[Array.length_toList]
    refine wpAny_bind (hgw _ ?_)
    refine wpAny_bind (vZ (s:={s1 with heap:=h1}) y1 (S':=λk'=>S k'||decide (k'=k)) (m':=m+1) (hel1.perm hp) (λk'=>(hmem1 k').trans ⟨λob=>ah ob λe he q=>⟨e,hp.mem_iff.mpr he,q⟩,λob=>ah ob λe he q=>⟨e,hp.mem_iff.mp he,q⟩⟩) (by exact ab cj<|hb1') gF hpr (by exact ab cj<|hle1) λh2 o2 hs2 y2=>?_)
    exact wpAny_pure ⟨rfl,hQ true h2 (cz.trans hs2) ⟨_,_,_,_,y2⟩⟩
   ·exact wpAny_pure ⟨rfl,hQ true h1 cz ⟨_,_,_,_,y1⟩⟩
  have fin:∀{T:Sem (Option Bool)},wpAny (model pg w) A T (λr s'=>r=some true/\Q true s') E s1->wpAny (model pg w) A T (λr s'=>wpAny (model pg w) A (match r with | some added=>pure added | none=>setAddHashedIn a (.str k u) ((PySem.strKind pg w).hash k) 99999) Q E s') E s1:=λhT=>
   wpAny_mono hT (λr s' ⟨e,q⟩=>by exact ab e<|wpAny_pure q) λ_ _ x=>x
  refine bq (λ_=>?_) λ_=>?_
  ·exact wpAny_bind<|wpAny_pure<|fin (tail _ (SetTable.fits_plain_off hfits) rfl)
  ·rename_i hnp
   refine wpAny_bind (wpAny_pure ?_)
   exact fin (tail _ hfits (by simpa using hnp))
end
end
section
noncomputable def fZ(xs:List Str):Str->Bool:=λk=>decide (k∈xs)
noncomputable def kG(ij:Bool):Obj:={cls:=.type "set",dict:=none,data:=.set #[] 0 (.fresh 0 0 ij)}
section
variable {w:World} {A:Around} {E:Value->Shared->Prop} {s:Shared}
theorem C3{h:Heap}{a:Addr}{S S':Str->Bool}{m:Nat}(x:SSet w h a S m)(e:∀k,S k=S' k):SSet w h a S' m:=(funext e:S=S')▸x
theorem C2{h:Heap}{a:Addr}{ij:Bool}(e:h.get? a=some (kG ij)):SSet w h a (fZ []) 0:=
 ⟨_,#[],0,_,e,⟨rfl,rfl,rfl⟩,rfl,(λe he=>by simp at he),(λk=>by simp[fZ]),(Nat.succ_pos _),(by rfl),(λh=>absurd h (Nat.lt_irrefl _)),Nat.le_refl _⟩
theorem FL{R:Result->Shared->Prop}{S I l:Addr}{items:Array Value}{xs:List Str}{h0:Heap}(hh:A.in1.handled=none)(hI:l≠I)(hSI:S≠I)(hSl:S≠l)(aV:items.size=xs.length)(hb:xs.length+1 < scanBound)
  (hx:∀(i:Nat) (v:Value),items[i]? =some v->∃(x:Str) (t:Tok),xs[i]? =some x/\v=Value.str x t):
  ∀(k i:Nat) (s:Shared),items.size - i=k->i<=items.size->s.heap.IsListIter I l i->s.heap.IsList l items->SSet w s.heap S (fZ (xs.take i)) i->(∀b o,b≠S->b≠I->h0.get? b=some o->s.heap.get? b=some o)->
   (∀h' tk,SSet w h' S (fZ xs) items.size->(∀b o,b≠S->b≠I->h0.get? b=some o->h'.get? b=some o)->R (.ok (.ret .none)) {s with heap:=h',toks:=tk})->
   codeAny (model pg w) A (.builtin "set.update.loop" ⟨[.ref S,.ref I],[]⟩) R s:=by
 intro k
 induction k with
 | zero=>
  intro i s hk hi ed hl hS h0k hR
  have du:i=items.size:=by lia
  subst du
  refine codeAny_builtin F.entry_set_update_loop<|wpAny_bind (wpAny_pyNext_list_end hh ed hl (by simp) λh' he=>?_)
  refine wpAny_pure ?_
  have hx:SSet w h' S (fZ xs) items.size:=by
   rw[aV,List.take_length]at hS
   exact ab aV<|hS.keeps λo e=>he S o hSI e
  exact hR h' s.toks hx λb o h1 h2 e=>he b o h2 (h0k b o h1 h2 e)
 | succ k ih=>
  intro i s hk hi ed hl hS h0k hR
  have bl:i < items.size:=by lia
  refine cR (hx i items[i] (by simp[bl])) λx t hx1 hx2=>codeAny_builtin F.entry_set_update_loop<|wpAny_bind (wpAny_pyNext_list_item ed hl (x:=items[i]) (by simp[bl]) λh' hit' hs=>?_)
  refine ab hx2<|(?_:wpAny _ A.in1 (holding [Value.str x t] (setAdd S (.str x t)) >>= _) _ _ _)
  have hS1:SSet w h' S (fZ (xs.take i)) i:=hS.keeps λo e=>(hs.2 S hSI).trans e
  refine wpAny_bind (wpAny_holding (FF (s:={s with heap:=h'}) hS1 (by lia) λb h2 hs2 hS2=>?_))
  have eY:h2.IsList l items:=by
   exact ah hl λo ho r=>aJ o ((hs2.2 l (Ne.symm hSl)).trans ((hs.2 l hI).trans ho)) r
  have hit2:h2.IsListIter I l (i+1):=by
   exact ah hit' λo ho r=>aJ o ((hs2.2 I (Ne.symm hSI)).trans ho) r
  have tk:xs.take (i+1)=xs.take i++[x]:=by refine ab List.take_add_one<|ab hx1 ?_;rfl
  refine wpAny_pure ⟨plainId_quiet F.plain_set_update_loop _,ih (i+1) _ (by lia) bl hit2 eY (C3 hS2 λk'=>?_) (λb o h1 h3 e=>?_) λh3 tk3 hS3 gW=>hR h3 tk3 hS3 gW⟩
  ·unfold fZ
   refine ab tk ?_;rw[Bool.eq_iff_iff,Bool.or_eq_true,decide_eq_true_iff,decide_eq_true_iff,decide_eq_true_iff,List.mem_append,List.mem_singleton]
  ·exact(hs2.2 b h1).trans ((hs.2 b h3).trans (h0k b o h1 h3 e))
theorem BJ{l:Addr}{items:Array Value}{xs:List Str}{Q:Value->Shared->Prop}(hh:A.handled=none)(hl:s.heap.IsList l items)(aV:items.size=xs.length)(hb:xs.length+1 < scanBound)
  (hx:∀(i:Nat) (v:Value),items[i]? =some v->∃(x:Str) (t:Tok),xs[i]? =some x/\v=Value.str x t)
  (h:∀(h':Heap) (tk:Nat),SSet w h' s.heap.objs.size (fZ xs) items.size->(∀b o,s.heap.get? b=some o->h'.get? b=some o)->Q (.ref s.heap.objs.size) {s with heap:=h',toks:=tk}):
  wpAny (model pg w) A (call (.type "set") [.ref l]) Q E s:=by
 obtain⟨c,tl,hmro⟩:=F.called_set.mro
 have hmade:=F.called_set.made
 have hsub:=F.called_set.sub
 refine wpAny_call (codeAny_of_tree ?_)
 show wpAny _ _ (callAny (.type "set") _) _ _ _
 refine wpAny_pure ⟨Code.quiet_builtin _ (by decide+kernel),codeAny_builtin F.entry_type_call ?_⟩
 rw[Around.under_plain (weight_type_call_type "set" [.ref l] []) rfl]
 have h1:=F.called_set.notType
 have h2:=F.called_set.canCreate
 have hct:=F.typeCall_set_1 (.ref l)
 repeat (any_goals (first | assumption | wp_step))
 refine codeAny_mono (code_set_new_1 (.ref l) (E:=E) (Q₁:=λobj aD=>∃ij:Bool,obj=.ref s.heap.objs.size/\aD={s with heap:=s.heap.push (kG ij)}) λij=>⟨ij,rfl,rfl⟩) λr aD hr=>?_
 rcases r with e | (obj | _ | _ | _)<;>first | exact hr | exact hr.elim | skip
 obtain⟨ij,rfl,rfl⟩:=hr
 have hS:(s.heap.push (kG ij)).get? s.heap.objs.size=some (kG ij):=Heap.get?_push_size _ rfl
 have hT:Shared.TypeIs {s with heap:=s.heap.push (kG ij)} (.ref s.heap.objs.size) "set":=⟨_,hS,rfl⟩
 have hli:=F.called_set.init.lookup
 have hbi:=F.called_set.init.bind (.ref s.heap.objs.size)
 repeat (any_goals (first | assumption | wp_step))
 refine codeAny_mono (codeAny_call_builtin (R:=wants (λr ey=>r=.none/\∃h' tk,ey={s with heap:=h',toks:=tk}/\SSet w h' s.heap.objs.size (fZ xs) items.size/\(∀b o,s.heap.get? b=some o->h'.get? b=some o)) E)
  F.called_set.init.plain F.entry_set_init (check_set_init_1 hT ?_)) λr₂ ey hr₂=>?_
 ·obtain⟨ol,hol,dS,nl,hdl⟩:=hl
  obtain⟨ocls,odict,odata,oslots⟩:=ol
  simp only at dS hdl
  subst dS;subst hdl
  have hol':(s.heap.push (kG ij)).get? l=some {cls:=.type "list",dict:=odict,data:=.seq items nl,slots:=oslots}:=Heap.get?_push_of_some _ hol
  have hsls:=F.sub_list_set
  have hslf:=F.sub_list_frozenset
  have au:(Value.type "list"==Value.type "dict")=false:=by decide
  have eN:(s.heap.push (kG ij)).IsList l items:=⟨_,hol',rfl,nl,rfl⟩
  have hlS:l < s.heap.objs.size:=Heap.lt_size hol
  unfold kG at *
  unfold Builtin.«set.__init__» noKeywords Builtin.Frozenset.updateFrom
  generalize hPI:pyIter=PI
  wp_walk
  subst hPI
  refine wpAny_pyIter_list eN<|wpAny_bind (wpAny_runValue ?_)
  refine FL (w:=w) (h0:=s.heap) (S:=s.heap.objs.size) (l:=l) (items:=items) (xs:=xs) (by simp[hh]) ?_ ?_ (Nat.ne_of_gt hlS) aV hb hx (items.size - 0) 0 _ (by lia) (Nat.zero_le _) ⟨_,Heap.get?_push_size _ rfl,rfl,rfl⟩ (eN.push _) ?_ (λb o _ _ e=>Heap.get?_push_of_some _ (Heap.get?_push_of_some _ e)) λh' tk hS' hk'=>?_
  ·rw[Heap.size_push];exact Nat.ne_of_lt (Nat.lt_succ_of_lt hlS)
  ·rw[Heap.size_push];exact Nat.ne_of_lt (Nat.lt_succ_self _)
  ·exact C2 (Heap.get?_push_of_some _ hS)
  ·refine wpAny_pure ?_
   show wpAny _ _ (ret Value.none) _ _ _
   refine wpAny_pure ⟨rfl,h',tk,rfl,hS',λb o e=>hk' b o (Nat.ne_of_lt (Heap.lt_size e)) ?_ e⟩
   rw[Heap.size_push];exact Nat.ne_of_lt (Nat.lt_succ_of_lt (Heap.lt_size e))
 ·rcases r₂ with e | (r | _ | _ | _)<;>first | exact hr₂ | exact hr₂.elim | skip
  obtain⟨rfl,h',tk,rfl,hS',hk'⟩:=hr₂
  repeat (any_goals (first | assumption | wp_step))
  exact h _ _ hS' hk'
end
end
section
theorem se{α:Type}:∀(l:List α) (i:Nat) (x:α),l[i]? =some x->List.Perm (x::l.eraseIdx i) l
 | [],_,_,h=>by exact nS h
 | y::r,0,x,h=>by simp at h;subst h;exact .refl _
 | y::r,i+1,x,h=>by
  exact(List.Perm.swap y x _).trans ((se r i x (by simpa using h)).cons y)
set_option tactic.hygienic true in
theorem yH{α:Type}(next:Nat->Nat):∀(fuel k:Nat) (left:List α) (out:Array α),left.length<=fuel->List.Perm (pickOrder.go next fuel k left out).toList (out.toList++left)
 | 0,k,left,out,h=>by
  refine ab (List.length_eq_zero_iff.mp (by lia):left=[]) ?_
  dsimp only[pickOrder.go]
  simp
 | fuel+1,k,left,out,h=>by
  dsimp only[pickOrder.go]
  split
  ·rename_i x hx
   have hp:=se left _ x hx
   have hl:(left.eraseIdx (next k % left.length)).length+1=left.length:=hp.length_eq
   refine(yH next fuel (k+1) _ (out.push x) (by lia)).trans<|ab Array.toList_push ?_;rw[List.append_assoc]
   exact List.Perm.append_left _ hp
  ·rename_i hx
   have:left=[]:=by
    cases left with
    | nil=>rfl
    | cons y r=>
     replace hx:=(List.getElem?_eq_getElem (Nat.mod_lt _ (Nat.succ_pos _):next k % (y::r).length < (y::r).length))▸hx;exact sN hx
   refine ab this ?_
   simp
theorem Eh{α:Type}(next:Nat->Nat)(xs:Array α):List.Perm (pickOrder next xs).toList xs.toList:=by
 exact(yH next xs.size 0 xs.toList #[] (by simp))
section
variable {M:Model} {A:Around} {E:Value->Shared->Prop}
theorem BS{src:Source}{n:Nat}{s:Shared}{Q:Nat->Shared->Prop}(hn:n≠0)(h:∀i d,i < n->Q i {s with drawn:=d}):wpAny M A (choose src n) Q E s:=
 λ_ _ _=>⟨hn,h _ _ (Nat.mod_lt _ (Nat.pos_of_ne_zero hn))⟩
theorem yw{α:Type}:∀(n:Nat) (xs:List α) (s:Shared) (Q:List α->Shared->Prop),xs.length<=n->(∀ys d,List.Perm ys xs->Q ys {s with drawn:=d})->wpAny M A (drawOrder n xs) Q E s
 | 0,xs,s,Q,hl,h=>by
  have:xs=[]:=List.length_eq_zero_iff.mp (by lia)
  subst this
  exact wpAny_pure (h [] s.drawn (.refl _))
 | n+1,[],s,Q,hl,h=>wpAny_pure (h [] s.drawn (.refl _))
 | n+1,y::r,s,Q,hl,h=>by
  refine wpAny_bind (BS (Nat.succ_ne_zero _) λi d hi=>?_)
  refine ab (List.getElem?_eq_getElem hi) ?_
  have hp:=se (y::r) i _ (List.getElem?_eq_getElem hi)
  refine wpAny_bind (yw n _ _ _ (by have:=hp.length_eq;simp only[List.length_cons]at this hl⊢;lia) λys d' hys=>wpAny_pure ?_)
  exact h _ d' ((hys.cons _).trans hp)
end
theorem iT:Slot "set_iterator" "__next__" "set_iterator.__next__":=
 .of (owner:="set_iterator") (n:="__next__") (by kernel_rfl) (by decide+kernel) (by decide+kernel) (by decide+kernel)
  (by first | exact .inl (by decide+kernel) | exact .inr (by decide+kernel)) (by kernel_rfl)
theorem vD:Slot "set_iterator" "__iter__" "set_iterator.__iter__":=
 .of (owner:="set_iterator") (n:="__iter__") (by kernel_rfl) (by decide+kernel) (by decide+kernel) (by decide+kernel)
  (by first | exact .inl (by decide+kernel) | exact .inr (by decide+kernel)) (by kernel_rfl)
theorem vG:Slot "set" "__iter__" "set.__iter__":=
 .of (owner:="set") (n:="__iter__") (by kernel_rfl) (by decide+kernel) (by decide+kernel) (by decide+kernel)
  (by first | exact .inl (by decide+kernel) | exact .inr (by decide+kernel)) (by kernel_rfl)
theorem Bj:entryFor table "set.__iter__"=some Builtin.«frozenset.__iter__»:=entryFor_alias (id':="frozenset.__iter__") (by kernel_rfl) (by decide+kernel) (by decide+kernel) (by kernel_rfl)
theorem pG:entryFor table "set_iterator.__next__"=some Builtin.«set_iterator.__next__»:=entryFor_of_fast (by kernel_rfl)
theorem A8:entryFor table "set_iterator.__iter__"=some Builtin.«dict_keyiterator.__iter__»:=entryFor_alias (id':="dict_keyiterator.__iter__") (by kernel_rfl) (by decide+kernel) (by decide+kernel) (by kernel_rfl)
theorem pH(a:Value):argsOk "set_iterator.__next__" ⟨[a],[]⟩:=by kernel_rfl
theorem Be(a:Value):argsOk "set_iterator.__iter__" ⟨[a],[]⟩:=by kernel_rfl
theorem BK(a:Value):argsOk "set.__iter__" ⟨[a],[]⟩:=by kernel_rfl
noncomputable def hZ(h:Heap)(I a:Addr)(f:Value)(n ep k:Nat):Prop:=h.get? I=some {cls:=.type "set_iterator",data:=.fields #[f,.int k 0,.ref a,.int n 0,.int ep 0]}
section
variable {w:World} {A:Around} {E:Value->Shared->Prop} {s:Shared}
theorem iV{I a:Addr}{f:Value}{n ep k:Nat}(x:hZ s.heap I a f n ep k):s.TypeIs (.ref I) "set_iterator":=⟨_,x,rfl⟩
theorem xQ{I a:Addr}{f:Value}{n ep k:Nat}{Q:Value->Shared->Prop}(x:hZ s.heap I a f n ep k)(h:Q (.ref I) s):wpAny (model pg w) A (pyIter (.ref I)) Q E s:=by
 refine wpAny_pyIter_slot (iV x) vD (wpAny_call_entry vD (iV x) A8 ?_ (Be _))
 exact wpAny_pure ⟨_,rfl,"set_iterator",_,iV x,iT.lookup,h⟩
theorem FJ{I a T:Addr}{S:Str->Bool}{m:Nat}{o:Obj}{es:Array (Int×Value)}{ep:Nat}{t:SetTable}{k:Nat}{dw:List Nat}{p:Nat}{e:Int×Value}{Q:Option Value->Shared->Prop}(x:hZ s.heap I a (.ref T) es.size ep k)(y:fG w s.heap a S m o es ep t)
  (hT:s.heap.get? T=some {cls:=.type "tuple",data:=.seq (dw.map λ(i:Nat)=>rawInt i).toArray}) (hp:dw[k]? =some p) (he:es[p]? =some e)
  (hQ:∀h',hZ h' I a (.ref T) es.size ep (k+1)->Heap.SameBut I s.heap h'->Q (some e.2) {s with heap:=h'}):wpAny (model pg w) A (pyNext (.ref I)) Q E s:=by
 refine wpAny_bind (wpAny_attempt (wpAny_callSpecial?_slot (name:=Str.ofString "__next__") (iV x) iT
  (wpAny_call_entry iT (iV x) pG ?_ (pH _))))
 refine wpAny_bind (wpAny_of_eq (a:=(.ref I,[])) (by first | rfl | kernel_rfl) ?_)
 refine wpAny_bind (wpAny_fieldsOf x rfl ?_)
 dsimp only
 refine wpAny_bind (wpAny_setEntries_of y.at_ y.data y.fits ?_)
 refine KFB.if_not (by simp)<|wpAny_bind (wpAny_seqItems hT rfl ?_)
 dsimp only
 refine ab (show((k:Int)).toNat=k from Int.toNat_natCast k)<|ab (by simp[hp]:(dw.map λ(i:Nat)=>rawInt i).toArray[k]? =some (rawInt p)) ?_
 simp only[rawInt]
 refine ab (show((p:Int)).toNat=p from Int.toNat_natCast p)<|ab (show((ep:Int)).toNat=ep from Int.toNat_natCast ep)<|wpAny_bind (wpAny_bind (wpAny_setState_of y.at_ y.data y.fits ?_))
 refine KFB.if_not (by simp)<|ab he<|wpAny_pure<|wpAny_bind (wpAny_setField x rfl (Nat.le_add_left _ _) (wpAny_pure ⟨_,rfl,wpAny_pure (hQ _ ?_ (Heap.SameBut.update ..))⟩))
 unfold hZ
 refine ab (Heap.get?_update_self _ x (by rfl)) ?_
 rfl
theorem wt{α:Type}{Q:α->Shared->Prop}(hh:A.handled=none)(h:∀e h',s.heap.objs.size<=h'.objs.size->(∀b o,s.heap.get? b=some o->h'.get? b=some o)->({s with heap:=h'}:Shared).TypeIs e "StopIteration"->E e {s with heap:=h'}):
  wpAny (model pg w) A (newExc (.type "StopIteration") [] >>= λe=>(raiseNew e:Sem α)) Q E s:=by
 refine wpAny_bind<|wpAny_bind (wpAny_newObj_type ?_ (by size_fits))
 refine wpAny_bind (m:=firstArgMember _ _) (wpAny_of_eq (a:=Value.none) (by first | rfl | (simp only[firstArgMember];rfl)) ?_)
 refine wpAny_newObj_type ?_ (by size_fits)
 refine wpAny_bind (wpAny_handled ?_)
 refine ab hh<|wpAny_bind (wpAny_pure (wpAny_throw ?_))
 exact h _ _ (by rw[Heap.size_push,Heap.size_push];lia) (λb o e=>Heap.get?_push_of_some _ (Heap.get?_push_of_some _ e)) ⟨_,Heap.get?_push_size _ rfl,rfl⟩
theorem FK{I a T:Addr}{S:Str->Bool}{m:Nat}{o:Obj}{es:Array (Int×Value)}{ep:Nat}{t:SetTable}{k:Nat}{dw:List Nat}{Q:Option Value->Shared->Prop}(hh:A.in1.handled=none)(x:hZ s.heap I a (.ref T) es.size ep k)(y:fG w s.heap a S m o es ep t)
  (hT:s.heap.get? T=some {cls:=.type "tuple",data:=.seq (dw.map λ(i:Nat)=>rawInt i).toArray}) (hp:dw[k]? =none)
  (hQ:∀h',(∀b o,b≠I->s.heap.get? b=some o->h'.get? b=some o)->Q none {s with heap:=h'}):wpAny (model pg w) A (pyNext (.ref I)) Q E s:=by
 refine wpAny_bind (wpAny_attempt (wpAny_callSpecial?_slot (name:=Str.ofString "__next__") (iV x) iT
  (wpAny_call_entry iT (iV x) pG ?_ (pH _))))
 refine wpAny_bind (wpAny_of_eq (a:=(.ref I,[])) (by first | rfl | kernel_rfl) ?_)
 refine wpAny_bind (wpAny_fieldsOf x rfl ?_)
 dsimp only
 refine wpAny_bind (wpAny_setEntries_of y.at_ y.data y.fits ?_)
 refine KFB.if_not (by simp)<|wpAny_bind (wpAny_seqItems hT rfl ?_)
 dsimp only
 refine ab (show((k:Int)).toNat=k from Int.toNat_natCast k)<|ab (by simpa using hp:(dw.map λ(i:Nat)=>rawInt i).toArray[k]? =none)<|wpAny_bind (wpAny_setField x rfl (Nat.succ_pos _) ?_)
 refine wpAny_bind (wpAny_setField (s:={s with heap:=s.heap.update I (Obj.mapFields (·.setIfInBounds 0 (rawInt 0)))}) (Heap.get?_update_self (Obj.mapFields (·.setIfInBounds 0 (rawInt 0))) x (by rfl)) rfl (Nat.le_add_left _ _) ?_)
 refine wt (by first | exact hh | simpa using hh) λe h' hz hk hT'=>wpAny_bind (wpAny_isInstance (T:="StopIteration") (b:=true) hT' isSubtype_stop ?_)
 exact wpAny_pure (hQ _ λb o hb e=>hk b o (((Heap.SameBut.update ..).2 b hb).trans (((Heap.SameBut.update ..).2 b hb).trans e)))
theorem D7{I a:Addr}{S:Str->Bool}{m:Nat}{o:Obj}{es:Array (Int×Value)}{ep:Nat}{t:SetTable}{k:Nat}{e:Int×Value}{Q:Option Value->Shared->Prop}(bt:w.params.followText "set-order"=true)(x:hZ s.heap I a (rawInt 0) es.size ep k)(y:fG w s.heap a S m o es ep t)
  (he:(pickOrder (w.params.setOrder a ep) es)[k]? =some e)
  (hQ:∀h',hZ h' I a (rawInt 0) es.size ep (k+1)->Heap.SameBut I s.heap h'->Q (some e.2) {s with heap:=h'}):wpAny (model pg w) A (pyNext (.ref I)) Q E s:=by
 refine wpAny_bind (wpAny_attempt (wpAny_callSpecial?_slot (name:=Str.ofString "__next__") (iV x) iT
  (wpAny_call_entry iT (iV x) pG ?_ (pH _))))
 refine wpAny_bind (wpAny_of_eq (a:=(.ref I,[])) (by first | rfl | kernel_rfl) ?_)
 refine wpAny_bind (wpAny_fieldsOf x rfl ?_)
 dsimp only[rawInt]
 refine wpAny_bind (wpAny_setEntries_of y.at_ y.data y.fits ?_)
 refine KFB.if_not (by simp)<|ab (show((k:Int)).toNat=k from Int.toNat_natCast k)<|ab (show((ep:Int)).toNat=ep from Int.toNat_natCast ep)<|wpAny_bind (wpAny_bind (wpAny_setState_of y.at_ y.data y.fits ?_))
 refine wpAny_bind (wpAny_bind (wpAny_askSetting (wpAny_pure ?_)))
 refine KFB.if_so bt<|KFB.if_not (by simp)<|wpAny_bind (wpAny_bind (wpAny_setState_of y.at_ y.data y.fits ?_))
 refine wpAny_bind (wpAny_bind (wpAny_askSetting (wpAny_pure ?_)))
 refine KFB.if_so bt<|wpAny_bind (wpAny_askSetting (wpAny_pure ?_))
 refine ab (he:(pickOrder ((model pg w).w.params.setOrder a ep) es)[k]? =some e)<|wpAny_pure<|wpAny_bind (wpAny_setField x rfl (Nat.succ_pos _) ?_)
 have x2:=Heap.get?_update_self (Obj.mapFields (·.setIfInBounds 0 (Value.int (((0:Int).toNat:Nat):Int) 0))) x (by rfl)
 refine wpAny_bind (wpAny_setField (s:={s with heap:=_}) x2 rfl (Nat.le_add_left _ _) (wpAny_pure ⟨_,rfl,wpAny_pure (hQ _ ?_ ?_)⟩))
 ·skip
  refine(Heap.get?_update_self (Obj.mapFields (·.setIfInBounds 1 (Value.int ((k:Int)+1) 0))) x2 (by rfl)).trans ?_
  rfl
 ·exact(Heap.SameBut.update ..).trans (Heap.SameBut.update ..)
theorem D8{I a:Addr}{S:Str->Bool}{m:Nat}{o:Obj}{es:Array (Int×Value)}{ep:Nat}{t:SetTable}{k:Nat}{Q:Option Value->Shared->Prop}(hh:A.in1.handled=none)(bt:w.params.followText "set-order"=true)(x:hZ s.heap I a (rawInt 0) es.size ep k)(y:fG w s.heap a S m o es ep t)
  (he:(pickOrder (w.params.setOrder a ep) es)[k]? =none)
  (hQ:∀h',(∀b o,b≠I->s.heap.get? b=some o->h'.get? b=some o)->Q none {s with heap:=h'}):wpAny (model pg w) A (pyNext (.ref I)) Q E s:=by
 refine wpAny_bind (wpAny_attempt (wpAny_callSpecial?_slot (name:=Str.ofString "__next__") (iV x) iT
  (wpAny_call_entry iT (iV x) pG ?_ (pH _))))
 refine wpAny_bind (wpAny_of_eq (a:=(.ref I,[])) (by first | rfl | kernel_rfl) ?_)
 refine wpAny_bind (wpAny_fieldsOf x rfl ?_)
 dsimp only[rawInt]
 refine wpAny_bind (wpAny_setEntries_of y.at_ y.data y.fits ?_)
 refine KFB.if_not (by simp)<|ab (show((k:Int)).toNat=k from Int.toNat_natCast k)<|ab (show((ep:Int)).toNat=ep from Int.toNat_natCast ep)<|wpAny_bind (wpAny_bind (wpAny_setState_of y.at_ y.data y.fits ?_))
 refine wpAny_bind (wpAny_bind (wpAny_askSetting (wpAny_pure ?_)))
 refine KFB.if_so bt<|KFB.if_not (by simp)<|wpAny_bind (wpAny_bind (wpAny_setState_of y.at_ y.data y.fits ?_))
 refine wpAny_bind (wpAny_bind (wpAny_askSetting (wpAny_pure ?_)))
 refine KFB.if_so bt<|wpAny_bind (wpAny_askSetting (wpAny_pure ?_))
 refine ab (he:(pickOrder ((model pg w).w.params.setOrder a ep) es)[k]? =none)<|wpAny_pure<|wpAny_bind (wpAny_setField x rfl (Nat.le_add_left _ _) ?_)
 refine wt (by first | exact hh | simpa using hh) λe h' hz hk hT'=>wpAny_bind (wpAny_isInstance (T:="StopIteration") (b:=true) hT' isSubtype_stop ?_)
 exact wpAny_pure (hQ _ λb o hb e=>hk b o (((Heap.SameBut.update ..).2 b hb).trans e))
end
end
section
theorem p7{k:Str}{v:Value}(h:Value.isStrOf k v=true):∃t,v=.str k t:=Value.isStrOf_shape h
noncomputable def qO(S:Str->Bool)(ds:List D):Prop:=(∀d∈ds,∃k,d=.str k/\S k=true)/\(∀k,S k=true->D.str k∈ds)
noncomputable def uT:Value->D
 | .str k _=>.str k
 | _=>.none
section
variable {w:World}
theorem fG.str{h:Heap}{a:Addr}{S:Str->Bool}{m:Nat}{o:Obj}{es:Array (Int×Value)}{ep:Nat}{t:SetTable}(y:fG w h a S m o es ep t){e:Int×Value}(he:e∈es.toList):∃k u,e.2=.str k u/\S k=true:=by
 refine bR (y.el e he) λaw _=>ah aw λk hk _=>aW (p7 hk) λu hu=>?_
 exact mB k u hu ((y.mem k).mpr ⟨e,he,hk⟩)
theorem fG.out{h:Heap}{a:Addr}{S:Str->Bool}{m:Nat}{o:Obj}{es:Array (Int×Value)}{ep:Nat}{t:SetTable}(y:fG w h a S m o es ep t){l:List (Int×Value)}(hp:List.Perm l es.toList):qO S (l.map λe=>uT e.2):=by
 refine⟨λd hd=>?_,λk hk=>?_⟩
 ·refine ah (List.mem_map.mp hd) λe he am=>rB am<|cR (y.str (hp.mem_iff.mp he)) λk u h1 h2=>?_
  exact aJ k (by refine ab h1 ?_;rfl) h2
 ·refine ah ((y.mem k).mp hk) λe he h1=>aW (p7 h1) λu hu=>?_
  exact List.mem_map.mpr ⟨e,hp.mem_iff.mpr he,by refine ab hu ?_;rfl⟩
theorem fG.Lx{h:Heap}{a:Addr}{S:Str->Bool}{m:Nat}{o:Obj}{es:Array (Int×Value)}{ep:Nat}{t:SetTable}(y:fG w h a S m o es ep t){k1 k2:Str}(h1:S k1=true)(h2:S k2=true)(au:k1≠k2):1 < es.size:=by
 refine ah ((y.mem k1).mp h1) λe1 m1 i1=>ah ((y.mem k2).mp h2) λe2 m2 i2=>rB Array.length_toList ?_
 match hl:es.toList with
 | []=>replace m1:=hl▸m1;cases m1
 | [e]=>
  rw[hl,List.mem_singleton]at m1 m2
  subst m1
  obtain⟨u1,q1⟩:=p7 i1
  obtain⟨u2,q2⟩:=p7 i2
  replace q2:=q1▸m2▸q2
  cases q2
  exact absurd rfl au
 | _::_::_=>simp
end
theorem KY(es:Array (Int×Value))(l:List Nat):(∀p∈l,p < es.size)->(l.filterMap λp=>es[p]?)=l.map λp=>es.getD p (0,.none):=by
 induction l with
 | nil=>
  intro _
  exact rfl
 | cons p r ih=>
  intro h
  have hp:=h p List.mem_cons_self
  refine ab List.filterMap_cons<|ab List.map_cons<|ab (Array.getElem?_eq_getElem hp)<|ab (ih λq hq=>h q (List.mem_cons_of_mem _ hq)) ?_
  simp[Array.getD,hp]
section
variable {c:Cx} {n:Nat} {aa:Env} {Z:Ctx}
theorem yN{h:Heap}{I a:Addr}{f:Value}{k ep j:Nat}{o:Obj}(x:hZ h I a f k ep j)(e:h.get? I=some o):kC o:=by
 unfold hZ at x
 replace x:=e▸x;exact iK x<|od rfl (show l5 (Value.type "set_iterator")=true by rfl) (λq t e=>by cases e)
theorem Kw{A:Around}{s:Shared}{ow:Ow}{a:Addr}{S:Str->Bool}{m:Nat}{Q:Value->Shared->Prop}{E:Value->Shared->Prop}(rm:bh n A)(I:Inv c aa Z ow s)(x:SSet c.w s.heap a S m){k1 k2:Str}(h1:S k1=true)(h2:S k2=true)(au:k1≠k2)(hV:¬c.V a)(hO:∀x,ow x≠some a)
  (h:∀ds,qO S ds->∀i s',po c A ow s s' i ds->Q (.ref i) s'):wpAny (model pg c.w) A (pyIter (.ref a)) Q E s:=by
 refine nK x λo es ep t y=>?_
 have hT:s.TypeIs (.ref a) "set":=⟨o,y.at_,y.ex.1⟩
 have sz:=y.Lx h1 h2 au
 have dt:=y.plain (by lia)
 have pka:∀{s':Shared},s'.heap.get? a=some o->kl c ow s' a:=λe=>⟨hV,hO,o,e,(λv q=>by rw[y.data]at q;cases q),λiN ep' q=>by rw[y.data]at q;cases q⟩
 refine wpAny_pyIter_slot hT vG (wpAny_call_entry vG hT Bj ?_ (BK _))
 refine wpAny_bind (wpAny_of_eq (a:=a) (by first | rfl | kernel_rfl) ?_)
 refine wpAny_bind (wpAny_bind (wpAny_setEntries_of y.at_ y.data y.fits (wpAny_pure ?_)))
 refine wpAny_bind (wpAny_bind (wpAny_setState_of y.at_ y.data y.fits ?_))
 dsimp only
 refine wpAny_bind (wpAny_bind (wpAny_askSetting (wpAny_pure ?_)))
 cases hb:c.w.params.followText "set-order" with
 | true=>
  have jp:(model pg c.w).w.params.followText "set-order"=true:=hb
  simp only[jp,Bool.not_true,Bool.false_and]
  refine wpAny_pure<|wpAny_bind (wpAny_pure ?_)
  refine wpAny_bind (wpAny_setEpoch_of y.at_ y.data y.fits ?_)
  refine wpAny_bind (wpAny_newObj_type ?_ (by size_fits))
  have hp:=Eh (c.w.params.setOrder a ep) es
  let vs:=pickOrder (c.w.params.setOrder a ep) es
  have d0:(s.heap.push {cls:=.type "set_iterator",data:=.fields #[rawInt 0,rawInt 0,.ref a,rawInt es.size,rawInt ep]}).get? a=some o:=Heap.get?_push_of_some _ y.at_
  refine wpAny_pure ⟨_,rfl,"set_iterator",_,⟨_,Heap.get?_push_size _ rfl,rfl⟩,iT.lookup,h _ (y.out hp) _ _ ?_⟩
  have st:Step c s {s with heap:=s.heap.push {cls:=.type "set_iterator",data:=.fields #[rawInt 0,rawInt 0,.ref a,rawInt es.size,rawInt ep]}}:=.push I.ok _ s.toks
  refine⟨st,Nat.le_refl _,by rw[Heap.size_push];exact Nat.lt_succ_self _,[s.heap.objs.size,a],[],λi v=>∃e,vs[i]? =some e/\v=e.2,λi h'=>hZ h' s.heap.objs.size a (rawInt 0) es.size ep i/\h'.get? a=some o,?_,⟨Heap.get?_push_size _ rfl,d0⟩,λb jp au=>?_,λk h o' hs e=>yN hs.1 e,λk h hs=>⟨_,hs.1⟩,λp hp=>(nomatch hp),λk v hv=>?_⟩
  ·have au:a≠s.heap.objs.size:=Nat.ne_of_lt (Heap.lt_size y.at_)
   have y':∀{h':Heap},h'.get? a=some o->fG c.w h' a S m o es ep t:=λe=>⟨e,y.ex,y.data,y.el,y.mem,y.lt,y.fits,y.plain,y.le⟩
   refine⟨λb hb=>by simp at hb;simp[hb],λi h h' st hk=>⟨hk _ (by simp) _ st.1,hk _ (by simp) _ st.2⟩,λi s' Q E hi st hQ=>?_,λs' Q E st hQ=>?_,λi s' Q E st hQ=>xQ st.1 hQ⟩
   ·have eZ:i < vs.size:=by rw[List.length_map,Array.length_toList]at hi;exact hi
    refine D7 (e:=vs[i]) hb st.1 (y' st.2) (Array.getElem?_eq_getElem eZ) λh' x' hs=>?_
    exact hQ _ h' s'.toks ⟨_,Array.getElem?_eq_getElem eZ,rfl⟩ ⟨x',(hs.2 a au).trans st.2⟩ λb o hb e=>(hs.2 b (by simpa using hb)).trans e
   ·skip
    exact D8 (by simp[rm.h]) hb st.1 (y' st.2) (by simp) λh' hk=>hQ h' s'.toks λb o hb e=>hk b o (by simpa using hb) e
  ·rcases List.mem_cons.mp jp with e | e
   ·exact absurd e au
   ·rw[List.mem_singleton]at e;exact ab e<|pka d0
  ·obtain⟨e,he,rfl⟩:=hv
   have hm:e∈vs.toList:=by rw[<- Array.getElem?_toList]at he;exact List.mem_of_getElem? he
   refine cR (y.str (hp.mem_iff.mp hm)) λk' u h1 h2=>⟨.str k',?_,.inl λh O=>by rw[h1];exact .str _ _⟩
   rw[List.getElem?_map,Array.getElem?_toList]
   rw[he]
   show some (uT e.2)=_
   rw[h1];rfl
 | false=>
  have jp:(model pg c.w).w.params.followText "set-order"=false:=hb
  simp only[jp,Bool.not_false,Bool.true_and]
  refine wpAny_pure<|KFB.if_so (by show(!t.plain&&decide (es.size > 1))=true;rw[dt,decide_eq_true sz];rfl)<|wpAny_bind (yw es.size (List.range es.size) s _ (by rw[List.length_range];exact Nat.le_refl _) λdw d hpl'=>?_)
  have aV:dw.length=es.size:=by rw[hpl'.length_eq,List.length_range]
  have bl:∀p∈dw,p < es.size:=λp hp=>List.mem_range.mp (hpl'.mem_iff.mp hp)
  have hlim:es.size<=sizeLine:=fits_of_scanBound y.lt
  refine wpAny_bind (wpAny_newTuple ?_ (by rw[List.length_map,aV];exact hlim))
  have ne0:∀o':Obj,(s.heap.push o').get? a=some o:=λo'=>Heap.get?_push_of_some _ y.at_
  refine wpAny_bind (wpAny_setEpoch_of (ne0 _) y.data y.fits ?_)
  refine wpAny_bind (wpAny_newObj_type ?_ (by size_fits))
  generalize hT1:(dw.map λ(i:Nat)=>rawInt i)=tv
  have hp:List.Perm (dw.filterMap λp=>es[p]?) es.toList:=(hpl'.filterMap _).trans (by rw[filterMap_getElem?_range])
  have hl:(dw.filterMap λp=>es[p]?)=dw.map λp=>es.getD p (0,.none):=KY es dw bl
  let vs:=dw.map λp=>es.getD p (0,Value.none)
  have hvs:vs.length=es.size:=by rw[List.length_map,aV]
  have hp':List.Perm vs es.toList:=by rw[hl]at hp;exact hp
  have hout:=y.out hp'
  let tO:Obj:={cls:=.type "tuple",data:=.seq tv.toArray}
  have d0:∀o':Obj,((s.heap.push tO).push o').get? a=some o:=λo'=>Heap.get?_push_of_some _ (ne0 _)
  have htup:∀o':Obj,((s.heap.push tO).push o').get? s.heap.objs.size=some tO:=λo'=>Heap.get?_push_of_some _ (Heap.get?_push_size _ rfl)
  refine wpAny_pure ⟨_,rfl,"set_iterator",_,⟨_,Heap.get?_push_size _ rfl,rfl⟩,iT.lookup,h _ hout _ _ ?_⟩
  have hz1:(s.heap.push tO).objs.size=s.heap.objs.size+1:=Heap.size_push ..
  have haL:a < s.heap.objs.size:=Heap.lt_size y.at_
  refine⟨.keep I.ok ?_ λb o' e=>Heap.get?_push_of_some _ (Heap.get?_push_of_some _ e),?_,?_,[(s.heap.push tO).objs.size,s.heap.objs.size,a],[],λi v=>∃e,vs[i]? =some e/\v=e.2,λi h'=>hZ h' (s.heap.push tO).objs.size a (.ref s.heap.objs.size) es.size ep i/\h'.get? a=some o/\h'.get? s.heap.objs.size=some tO,?_,
   ⟨Heap.get?_push_size _ rfl,d0 _,htup _⟩,λb jp au=>?_,λk h o' hs e=>yN hs.1 e,λk h hs=>⟨_,hs.1⟩,λp hp=>(nomatch hp),λk v hv=>?_⟩
  ·show s.heap.objs.size<=((s.heap.push tO).push _).objs.size
   rw[Heap.size_push,hz1];lia
  ·rw[hz1];exact Nat.le_succ _
  ·show(s.heap.push tO).objs.size < ((s.heap.push tO).push _).objs.size
   exact Nat.lt_of_lt_of_eq (Nat.lt_succ_self _) (Heap.size_push ..).symm
  ·have ne1:a≠(s.heap.push tO).objs.size:=by rw[hz1];exact Nat.ne_of_lt (Nat.lt_succ_of_lt haL)
   have ne2:s.heap.objs.size≠(s.heap.push tO).objs.size:=by rw[hz1];exact Nat.ne_of_lt (Nat.lt_succ_self _)
   have y':∀{h':Heap},h'.get? a=some o->fG c.w h' a S m o es ep t:=λe=>⟨e,y.ex,y.data,y.el,y.mem,y.lt,y.fits,y.plain,y.le⟩
   have htO:tO={cls:=.type "tuple",data:=.seq (dw.map λ(i:Nat)=>rawInt i).toArray}:=by rw[hT1]
   refine⟨λb hb=>by simp at hb;simp[hb],λi h h' st hk=>⟨hk _ (by simp) _ st.1,hk _ (by simp) _ st.2.1,hk _ (by simp) _ st.2.2⟩,λi s' Q E hi st hQ=>?_,λs' Q E st hQ=>?_,λi s' Q E st hQ=>xQ st.1 hQ⟩
   ·have eZ:i < dw.length:=by rw[List.length_map,List.length_map]at hi;exact hi
    have hpi:dw[i]? =some dw[i]:=List.getElem?_eq_getElem eZ
    have hpl3:dw[i] < es.size:=bl _ (List.getElem_mem eZ)
    have hei:es[dw[i]]? =some es[dw[i]]:=Array.getElem?_eq_getElem hpl3
    refine FJ (w:=c.w) st.1 (y' st.2.1) (htO▸st.2.2) hpi hei λh' x' hs=>hQ _ h' s'.toks ⟨es[dw[i]],?_,rfl⟩ ⟨x',(hs.2 a ne1).trans st.2.1,(hs.2 _ ne2).trans st.2.2⟩ λb o hb e=>(hs.2 b (by simpa using hb)).trans e
    rw[List.getElem?_map,hpi]
    simp[Array.getD,hpl3]
   ·rw[List.length_map,hvs]at st
    refine FK (w:=c.w) (by simp[rm.h]) st.1 (y' st.2.1) (htO▸st.2.2) (List.getElem?_eq_none (by lia)) λh' hk=>?_
    exact hQ h' s'.toks λb o hb e=>hk b o (by simpa using hb) e
  ·rcases List.mem_cons.mp jp with e | e
   ·exact absurd e au
   ·rcases List.mem_cons.mp e with e | e
    ·refine ab e<|⟨λv=>?_,λx e=>?_,tO,htup _,(λ_ e=>nomatch e),(λ_ _ e=>nomatch e)⟩
     ·exact I.freshD (I.ok.vd _ v)
     ·refine bB (I.frm.onew x _ e) λ_ _ ar=>cY ar λxs j q=>?_
      exact Nat.lt_irrefl _ (Heap.lt_size q)
    ·rw[List.mem_singleton]at e;exact ab e<|pka (d0 _)
  ·refine aW hv λe ar=>?_;obtain⟨he,rfl⟩:=ar
   refine cR (y.str (hp'.mem_iff.mp (List.mem_of_getElem? he))) λk' u q1 q2=>⟨.str k',?_,.inl λh O=>by rw[q1];exact .str _ _⟩
   rw[List.getElem?_map,he]
   show some (uT e.2)=_
   rw[q1];rfl
end
end
section
structure fH where
 x:Addr
 dx:Addr
 sa:Addr
 la:Addr
 ma:Addr
structure jb(w:World)(i:fH)(S:Str->Bool)(m:Nat)(cc:List (Str×Int))(h:Heap):Prop where
 x:h.get? i.x=some (instObj 171 i.dx)
 dx:∃es n,h.get? i.dx=some (dictOf es n)/\getL "_mods" es=some (some (.ref i.sa))/\getL "_dirs" es=some (some (.ref i.la))/\getL "_ignore" es=some (some (.ref i.ma))/\getL "names" es=some none
 set:SSet w h i.sa S m
 la:PL h i.la #[]
 ma:StrTab pg w h i.ma (kdpD cc)
noncomputable def ii(aM:List Str)(aE:Str->Int)(cc:List (Str×Int)):Prop:=(cc.map (·.1)).Nodup/\∀p∈cc,p.1∈aM/\p.2=aE p.1
structure eU(c:Cx)(i:fH)(S:Str->Bool)(m:Nat)(aM:List Str)(aE:Str->Int):Prop where
 j:∀h,c.J h->∃cc,jb c.w i S m cc h/\ii aM aE cc
 put:∀h h' cc,c.J h->Heap.SameBut i.ma h h'->StrTab pg c.w h' i.ma (kdpD cc)->ii aM aE cc->c.J h'
 vm:c.V i.ma
 nv:¬c.V i.sa/\¬c.V i.la
 ds:c.D i.sa/\c.D i.la
theorem eU.eI{c c':Cx}{i:fH}{S:Str->Bool}{m:Nat}{aM:List Str}{aE:Str->Int}(X:eU c i S m aM aE)(lk:dN c c'):eU c' i S m aM aE:=by
 refine⟨?_,?_,?_,?_,?_⟩
 ·exact ab lk.J<|ab lk.w X.j
 ·exact ab lk.J<|ab lk.w X.put
 ·exact ab lk.V X.vm
 ·exact ab lk.V X.nv
 ·exact ab lk.D X.ds
theorem Gd{α:Type}[DecidableEq α](l:List α):∀(m:List α),l.Nodup->(∀x∈l,x∈m)->l.length<=m.length:=by
 induction l with
 | nil=>
  intro _ _ _
  exact Nat.zero_le _
 | cons x r ih=>
  intro m hn hs
  refine bR (List.nodup_cons.mp hn) λh1 h2=>?_
  have hm:=hs x List.mem_cons_self
  have:=ih (m.erase x) h2 λy hy=>(List.mem_erase_of_ne (by rintro rfl;exact h1 hy)).mpr (hs y (List.mem_cons_of_mem _ hy))
  rw[List.length_erase_of_mem hm]at this
  have:=List.length_pos_of_mem hm
  simp only[List.length_cons];exact Nat.add_le_of_le_sub ‹_› ‹_›
section
variable {aM:List Str} {aE:Str->Int} {cc:List (Str×Int)}
theorem ii.len(M:ii aM aE cc):cc.length<=aM.length:=by
 have:=Gd (cc.map (·.1)) aM M.1 λx hx=>by
  exact ah (List.mem_map.mp hx) λp hp am=>rB am<|(M.2 p hp).1
 rwa [List.length_map]at this
theorem ii.put(M:ii aM aE cc){k:Str}(hk:k∈aM):ii aM aE (kdpPut cc k (aE k)):=by
 unfold kdpPut
 refine bq (λ_=>?_) λ_=>?_
 ·rename_i hc
  have e:(cc.map λp=>if decide (p.1=k)=true then(p.1,aE k)else p)=cc:=by
   conv=>rhs;rw[<- List.map_id cc]
   apply List.map_congr_left
   intro p hp
   by_cases q:p.1=k
   ·simp only[q,decide_true,if_true,id]
    have:=(M.2 p hp).2
    rw[q]at this
    refine rB this ?_;rw[<- q]
   ·simp[q]
  exact ab e M
 ·rename_i hc
  refine⟨?_,λp hp=>?_⟩
  ·refine ab List.map_append ?_;rw[List.nodup_append]
   refine⟨M.1,by exact of_decide_eq_true rfl,λa ha b hb e=>?_⟩
   simp only[List.map_cons,List.map_nil,List.mem_singleton]at hb
   subst e;subst hb
   exact ah (List.mem_map.mp ha) λp hp e=>hc (List.any_eq_true.mpr ⟨p,hp,by simpa using e⟩)
  ·rcases List.mem_append.mp hp with hp | hp
   ·exact M.2 p hp
   ·rw[List.mem_singleton]at hp;exact ab hp<|⟨hk,rfl⟩
theorem ii.look(M:ii aM aE cc){k:Str}(h:kdpHas cc k=true):kdpLook cc k 0=aE k:=by
 unfold kdpHas at h
 unfold kdpLook
 cases hf:cc.find? λp=>decide (p.1=k)with
 | none=>
  exact ah (List.any_eq_true.mp h) λp hp e=>absurd e (List.find?_eq_none.mp hf p hp)
 | some p=>
  have h1:=List.find?_some hf
  simp only[decide_eq_true_eq]at h1
  refine(?_:p.2=_)
  refine ab ((M.2 p (List.mem_of_find?_eq_some hf)).2) ?_;rw[h1]
end
theorem Iq(P:Params):findIn (Mine.K P) (.ref 171) "_mods"=some none:=by rfl
theorem Jb(P:Params):findIn (Mine.K P) (.ref 171) "_dirs"=some none:=by rfl
theorem EN(P:Params):findIn (Mine.K P) (.ref 171) "_ignore"=some none:=by rfl
theorem pV(P:Params):hasDictIn (Mine.K P) 171=true:=by rfl
noncomputable def AZ(i:fH)(f:Str)(a:Addr):Prop:=(f="_mods"/\a=i.sa)∨(f="_dirs"/\a=i.la)∨(f="_ignore"/\a=i.ma)
section
variable {c:Cx} {n:Nat} {aa:Env} {Z:Ctx} {i:fH} {S:Str->Bool} {m:Nat} {aM:List Str} {aE:Str->Int}
theorem IL{A:Around}{s:Shared}{f:Str}{a:Addr}{cc:List (Str×Int)}{Q:Value->Shared->Prop}{E:Value->Shared->Prop}(K:(Mine.K c.w.params).In s.heap)(X:jb c.w i S m cc s.heap)(hf:AZ i f a)(h:Q (.ref a) {s with toks:=s.toks+1}):wpAny (model pg c.w) A (getAttr (.ref i.x) f true) Q E s:=by
 refine nM X.dx λes k h1 h2 h3 h4 h5=>?_
 have I:InstAt s.heap i.x (instObj 171 i.dx) 171 (some (dictOf es k)):=⟨X.x,rfl,rfl,h1⟩
 rcases hf with⟨rfl,rfl⟩ | ⟨rfl,rfl⟩ | ⟨rfl,rfl⟩
 ·exact get_value K I (qU _) (findObj_own (pV _) (Iq _) rfl (by exact h2)) rfl h
 ·exact get_value K I (qU _) (findObj_own (pV _) (Jb _) rfl (by exact h3)) rfl h
 ·exact get_value K I (qU _) (findObj_own (pV _) (EN _) rfl (by exact h4)) rfl h
theorem mV{A:Around}{s:Shared}{ow:Ow}{f:Str}{a:Addr}{p ap:Pos}{Q:Value->Shared->Prop}{E:Value->Shared->Prop}(X:eU c i S m aM aE)(rm:bh n A)(I:Inv c aa Z ow s)(e:find Z "self"=some (.d (.ref i.x)))(hf:AZ i f a)(h:Q (.ref a) {s with toks:=s.toks+1}):
  wpAny (model pg c.w) A (eval (.Attribute (.Name (Str.ofString "self") p) f ap) aa) Q E s:=by
 refine Attribute_name (iX I e rm (λv r=>?_))
 have hv:v=.ref i.x:=by refine ag.rf r ?_;rfl
 exact ab hv<|ah (X.j _ I.bs.j) λcc ha _=>IL I.bs.sta.k ha hf h
theorem FW{A:Around}{s:Shared}{ow:Ow}{k:Str}{t u:Tok}{Q:Unit->Shared->Prop}{E:Value->Shared->Prop}(X:eU c i S m aM aE)(hd:aM.length<=1000)(I:Inv c aa Z ow s)(hk:k∈aM)(h:∀s',Step c s s'->Q () s'):
  wpAny (model pg c.w) A (setItem (.ref i.ma) (.str k t) (.int (aE k) u)) Q E s:=by
 refine ah (X.j _ I.bs.j) λcc ha M=>bR ha.ma λlo ar=>ah ar λkvs hdc hf=>?_
 have hl:kvs.length<=sizeLine:=by
  refine rB hf.length ?_;rw[kdpD_length,sizeLine_eq]
  have:=M.len
  lia
 refine wpAny_setItem_pairs (knd:=PySem.strKind pg c.w) (strKind_is _ _ _ _) hdc (λh' hm hs=>?_) hl
 refine h _ ⟨⟨Nat.le_of_eq hs.1.symm,λb o hb e=>(hs.2 b (λq=>hb (q▸X.vm))).trans e⟩,λj=>X.put _ _ _ j hs (⟨lo,_,hm,by rw[<- kdpD_put];exact hf.stored PyProof.V.same_str k (PyProof.V.Flat.int _ _)⟩:StrTab pg c.w h' i.ma (kdpD (kdpPut cc k (aE k)))) (M.put hk),rfl,id,Nat.le_succ _⟩
theorem IF{A:Around}{s:Shared}{ow:Ow}{k:Str}{t:Tok}{Q:Value->Shared->Prop}{E:Value->Shared->Prop}(X:eU c i S m aM aE)(I:Inv c aa Z ow s)
  (h1:∀cc,jb c.w i S m cc s.heap->ii aM aE cc->kdpHas cc k=true->Q (.bool true) {s with toks:=s.toks+1}) (h2:Q (.bool false) {s with toks:=s.toks+1}):wpAny (model pg c.w) A (compareOp .In (.str k t) (.ref i.ma)) Q E s:=by
 refine ah (X.j _ I.bs.j) λcc ha M=>kdp_in ha.ma ?_
 cases hb:kdpHas cc k with
 | true=>exact h1 cc ha M hb
 | false=>exact h2
end
end
section
noncomputable def j7(f:String):Pr Expr:=cA (cN (N "self") H) (N f) H
noncomputable def pf:Pr Expr:=cN (N "modulename") H
noncomputable def kW(k:Int)(e:List Stmt):Bool:=cm (l2 (dA (l1 (pn (j7 "_ignore") pf H)) (cK (kI (L k)) H H) H) (dR (sm (cK (kI (L k)) H H)) H)) e
noncomputable def rh(e:Stmt):Bool:=cm (dI (rE pf (l1 (L .In)) (l1 (j7 "_ignore")) H) (l1 (dR (sm (pn (j7 "_ignore") pf H)) H)) nl H) e
noncomputable def rg(e:Stmt):Bool:=cm (dI (rE pf (l1 (L .In)) (l1 (j7 "_mods")) H) (F (kW 1)) nl H) e
noncomputable def rq(e:Stmt):Bool:=cm (dF (cN (N "mod") H) (j7 "_mods") (l1 (dI (mC pf "startswith" (l1 (u8 (cN (N "mod") H) (L .Add) (jK [46]) H))) (F (kW 1)) nl H)) nl H) e
noncomputable def uX(e:Stmt):Bool:=cm (dI (rE (cN (N "filename") H) (l1 (L .Is)) (l1 (cK kN H H)) H) H nl H) e
noncomputable def uH(e:Stmt):Bool:=cm (dF (cN (N "d") H) (j7 "_dirs") H nl H) e
noncomputable def namesOk(e:List Stmt):Bool:=cm (cs (F rh) (cs (F rg) (cs (F rq) (cs (F uX) (cs (F uH) (F (kW 0))))))) e
section
variable {G:Stmt->Prop} {st:Stmt}
@[elab_as_elim] theorem LD{G:List Stmt->Prop}{b:List Stmt}{j:Int}(h:kW j b=true)(k:∀p q yp sp ka pa pp kb pb rp,G [.Assign [.Subscript (.Attribute (.Name (Str.ofString "self") p) (Str.ofString "_ignore") q) (.Name (Str.ofString "modulename") yp) sp] (.Constant (.int j) ka pa) pp,.Return (some (.Constant (.int j) kb pb)) rp]):G b:=aQ h λs=>k _ _ _ _ _ _ _ _ _ _
@[elab_as_elim] theorem L4(h:rh st=true)(k:∀yp p q cp p' q' zp sp rp ip,G (.If (.Compare (.Name (Str.ofString "modulename") yp) [.In] [.Attribute (.Name (Str.ofString "self") p) (Str.ofString "_ignore") q] cp) [.Return (some (.Subscript (.Attribute (.Name (Str.ofString "self") p') (Str.ofString "_ignore") q') (.Name (Str.ofString "modulename") zp) sp)) rp] [] ip)):G st:=aQ h λs=>k _ _ _ _ _ _ _ _ _ _
@[elab_as_elim] theorem L3(h:rg st=true)(k:∀yp p q cp b ip,kW 1 b=true->G (.If (.Compare (.Name (Str.ofString "modulename") yp) [.In] [.Attribute (.Name (Str.ofString "self") p) (Str.ofString "_mods") q] cp) b [] ip)):G st:=aQ h λs=>k _ _ _ _ _ _ s.2.1.2
@[elab_as_elim] theorem L8(h:rq st=true)(k:∀xp p q yp ap zp kd dp bp pos b ip fp,(ap.endLine==pos.line)=true->kW 1 b=true->G (.For (.Name (Str.ofString "mod") xp) (.Attribute (.Name (Str.ofString "self") p) (Str.ofString "_mods") q) [.If (.Call (.Attribute (.Name (Str.ofString "modulename") yp) (Str.ofString "startswith") ap) [.BinOp (.Name (Str.ofString "mod") zp) .Add (.Constant (.str (S [46])) kd dp) bp] [] pos) b [] ip] [] fp)):G st:=
 aQ h λs=>k _ _ _ _ _ _ _ _ _ _ _ _ _ s.2.2.1.1.1.2 s.2.2.1.1.2.1.2
@[elab_as_elim] theorem LZ(h:uX st=true)(k:∀yp kn np cp b ip,G (.If (.Compare (.Name (Str.ofString "filename") yp) [.Is] [.Constant .none kn np] cp) b [] ip)):G st:=aQ h λs=>k _ _ _ _ _ _
@[elab_as_elim] theorem KH(h:uH st=true)(k:∀xp p q b fp,G (.For (.Name (Str.ofString "d") xp) (.Attribute (.Name (Str.ofString "self") p) (Str.ofString "_dirs") q) b [] fp)):G st:=aQ h λs=>k _ _ _ _ _
@[elab_as_elim] theorem Im{G:List Stmt->Prop}{b:List Stmt}(h:namesOk b=true)(k:∀b0 b1 b2 b3 b4 r,rh b0=true->rg b1=true->rq b2=true->uX b3=true->uH b4=true->kW 0 r=true->G (b0::b1::b2::b3::b4::r)):G b:=aQ h λs=>k _ _ _ _ _ _ s.1.2 s.2.1.2 s.2.2.1.2 s.2.2.2.1.2 s.2.2.2.2.1.2 s.2.2.2.2.2.2
end
theorem Cv:namesOk (bu (meth 1))=true:=by decide+kernel
noncomputable def Nh(S:Str->Bool)(k:Str):Prop:=S k=true∨∃j,S j=true/\Txt.startswith k (j++".")=true
theorem D.str_inj{a b:Str}(h:D.str a=D.str b):a=b:=by cases h;rfl
theorem NG:(Str.ofString ".":Str)=S [46]:=by decide+kernel
section
variable {c:Cx} {n:Nat} {aa:Env} {Z:Ctx} {i:fH} {T:Str->Bool} {m:Nat} {aM:List Str} {aE:Str->Int} {k:Str}
theorem tY{b:List Stmt}{j:Int}(X:eU c i T m aM aE)(hd:aM.length<=1000)(hs:kW j b=true)(f1:find Z "self"=some (.d (.ref i.x)))(f2:find Z "modulename"=some (.d (.str k)))(hk:k∈aM)(ha:aE k=j):
  bS c n aa Z b λo=>o=.ret (.int j):=by
 refine LD hs λp q yp sp ka pa pp kb pb rp=>g7 ⟨λA s Q E ow rm I q=>?_⟩
 refine wpAny_Assign_Subscript (gP.run (c:=c) (n:=n) (Z:=Z) A s _ E ow rm I λvv s1 rv al=>?_)
 refine ag.bf rv λu=>?_
 have I1:=I.step al
 refine mV X rm I1 f1 (.inr (.inr ⟨rfl,rfl⟩)) ?_
 have I2:=I1.step (.tok (s:=s1) I1.ok (s1.toks+1))
 refine iX I2 f2 rm λvk rk=>ag.bw rk λt=>?_
 have I3:=I2
 have hp:=FW (t:=t) (u:=u) (A:=A) (Q:=λ_ s4=>Q .next s4) (E:=E) X hd I3 hk λs4 iJ=>q .next s4 (.next Z) (kH (jX gP (.inl rfl) rfl)) ⟨ow,I3.step iJ⟩
 rw[ha]at hp
 exact hp
theorem HB{st:Stmt}{ao:List Stmt}(X:eU c i T m aM aE)(hs:rh st=true)(f1:find Z "self"=some (.d (.ref i.x)))(f2:find Z "modulename"=some (.d (.str k)))(h:bS c n aa Z ao λo=>o=.ret (.int (aE k))):
  bS c n aa Z (st::ao) λo=>o=.ret (.int (aE k)):=by
 refine L4 hs λyp p q cp p' q' zp sp rp ip=>g7 ⟨λA s Q E ow rm I q=>?_⟩
 refine wpAny_If (wpAny_isTrue_Compare1 (iX I f2 rm λvk rk=>?_) (by with_unfolding_all rfl))
 refine ag.bw rk λt=>mV X rm I f1 (.inr (.inr ⟨rfl,rfl⟩)) ?_
 have I2:=I.step (.tok (s:=s) I.ok (s.toks+1))
 have I3:=I2.step (.tok I2.ok (s.toks+1+1))
 refine IF X I2 (λcc ha M hb=>wpAny_truthy_bool ?_) (wpAny_truthy_bool ?_)
 ·skip
  have I4:=I3.step (.tok I3.ok (s.toks+1+1+1))
  refine wpAny_execs_cons (wpAny_Return_some (Subscript_ (mV X rm I3 f1 (.inr (.inr ⟨rfl,rfl⟩)) (iX I4 f2 rm λvj rj=>?_))))
  refine ag.bw rj λu=>bR (id ha.ma) λlo ar=>ah ar λkvs hdc _=>lu (T:="dict") hdc.typeIs slot_dict_getitem.lookup ?_ (zj _ _ _)
  refine kdp_getItem ha.ma hb λv=>ab (M.look hb) ?_
  have st5:Step c {s with toks:=s.toks+1+1+1} {s with toks:=s.toks+1+1+1+1}:=.tok I4.ok _
  exact q (.ret _) _ (.ret (.int (aE k))) rfl ⟨(I4.step st5).bs,.int _ _⟩
 ·skip
  exact wpAny_execs_nil (q .next _ (.next Z) h ⟨ow,I3⟩)
theorem HA{st:Stmt}{ao:List Stmt}(X:eU c i T m aM aE)(hd:aM.length<=1000)(hs:rg st=true)(f1:find Z "self"=some (.d (.ref i.x)))(f2:find Z "modulename"=some (.d (.str k)))(hk:k∈aM)(ha:T k=true->aE k=1)
  (h:T k=false->bS c n aa Z ao λo=>o=.ret (.int (aE k))):bS c n aa Z (st::ao) λo=>o=.ret (.int (aE k)):=by
 refine L3 hs λyp p q cp b ip h3=>?_
 have hc:Cd c n aa Z (.Compare (.Name (Str.ofString "modulename") yp) [.In] [.Attribute (.Name (Str.ofString "self") p) (Str.ofString "_mods") q] cp) (T k):=λA s Q E ow rm I q=>by
  refine wpAny_isTrue_Compare1 (iX I f2 rm λvk rk=>?_) (by with_unfolding_all rfl)
  refine ag.bw rk λt=>mV X rm I f1 (.inl ⟨rfl,rfl⟩)<|ah (X.j _ I.bs.j) λcc hi _=>?_
  exact HM (s:={s with toks:=s.toks+1}) hi.set (wpAny_truthy_bool (q _ (.tok I.ok _ (by refine(?_:s.toks<=s.toks+1+1);lia))))
 refine g7 (nF hc (λht=>?_) λhf=>ly (h hf))
 refine(tY X hd h3 f1 f2 hk (ha ht)).mono λo ho=>ab ho<|(?_:az.ret _=az.ret _)
 exact ab (ha ht) rfl
theorem Go{p q:Pos}(X:eU c i T m aM aE)(f1:find Z "self"=some (.d (.ref i.x))){k1 k2:Str}(h1:T k1=true)(h2:T k2=true)(au:k1≠k2):AY c n aa Z (.Attribute (.Name (Str.ofString "self") p) (Str.ofString "_mods") q) (qO T):=λA s Q E ow rm I h=>by
 refine mV X rm I f1 (.inl ⟨rfl,rfl⟩)<|ah (X.j _ I.bs.j) λcc hi _=>?_
 have st:Step c s {s with toks:=s.toks+1}:=.tok I.ok _
 refine Kw rm (I.step st) (s:={s with toks:=s.toks+1}) hi.set h1 h2 au X.nv.1 (λx e=>?_) λds gZ j s' it=>h ds gZ j _ s' st it
 exact(I.frm.onew x _ e).2.1 X.ds.1
theorem ID{p q:Pos}(X:eU c i T m aM aE)(f1:find Z "self"=some (.d (.ref i.x))):It c n aa Z (.Attribute (.Name (Str.ofString "self") p) (Str.ofString "_dirs") q) []:=λA s Q E ow rm I h=>by
 refine mV X rm I f1 (.inr (.inl ⟨rfl,rfl⟩))<|ah (X.j _ I.bs.j) λcc hi _=>?_
 have st:Step c s {s with toks:=s.toks+1}:=.tok I.ok _
 have la:PL s.heap i.la #[]:=hi.la
 have au:i.la≠s.heap.objs.size:=λe=>by exact aW la λk q=>absurd (Heap.lt_size q) (by exact ab e<|Nat.lt_irrefl _)
 refine wpAny_pyIter_list (s:={s with toks:=s.toks+1}) la.isList (h _ {s with toks:=s.toks+1} _ st ?_)
 have ji:PL (s.heap.push {cls:=.type "list_iterator",data:=.fields #[.ref i.la,.int 0 0]}) i.la #[]:=la.push _
 refine⟨.push (s:={s with toks:=s.toks+1}) (I.step st).ok _ (s.toks+1),Nat.le_refl _,by rw[Heap.size_push];exact Nat.lt_succ_self _,_,[],_,_,(Walks.list (prog:=pg) (w:=c.w) rm.h s.heap.objs.size i.la au #[]),⟨?_,ji.isList⟩,λb hb au=>?_,λk h o hs e=>?_,λk h hs=>?_,(λp hp=>nomatch hp),λk v hv=>?_⟩
 ·exact nN _ (Heap.get?_push_size _ rfl) rfl rfl
 ·rcases List.mem_cons.mp hb with e | hb
  ·exact absurd e au
  ·rcases List.mem_cons.mp hb with e | hb
   ·exact ab e<|aW ji λk q=>dQ X.nv.2 (λx e=>(I.frm.onew x _ e).2.1 X.ds.2) ⟨_,q,(λ_ e=>nomatch e),(λ_ _ e=>nomatch e)⟩
   ·exact nomatch hb
 ·obtain⟨⟨o',e',hc,hd⟩,_⟩:=hs
  replace e':=e▸e';exact iK e'<|od hd (by refine ab hc ?_;decide) (λq t e=>by cases e)
 ·refine bR hs λaw _=>ah aw λo' e' _=>?_
  exact⟨o',e'⟩
 ·cases hv
theorem HC{st:Stmt}{ao:List Stmt}(X:eU c i T m aM aE)(hd:aM.length<=1000)(hs:rq st=true)(hp:cr c aa "mod")(f1:find Z "self"=some (.d (.ref i.x)))(f2:find Z "modulename"=some (.d (.str k)))(hk:k∈aM){k1 k2:Str}(h1:T k1=true)(h2:T k2=true)(au:k1≠k2)
  (cj:k.cps.size<=1000) (hTz:∀j,T j=true->j.cps.size<=1000) (ha:∀j,T j=true->Txt.startswith k (S (j.cps.toList++[46]))=true->aE k=1)
  (h:∀af,(∀y,y≠"mod"->find af y=find Z y)->(∀j,T j=true->Txt.startswith k (S (j.cps.toList++[46]))=false)->bS c n aa af ao λo=>o=.ret (.int (aE k))):bS c n aa Z (st::ao) λo=>o=.ret (.int (aE k)):=by
 refine L8 hs λxp p q yp ap zp kd dp bp pos b ip fp e7 e8=>g7 (zo (Pd:=qO T) hp (Go X f1 h1 h2 au) (λds j af=>(∀y,y≠"mod"->find af y=find Z y)/\∀d∈ds.take j,∀w,d=.str w->Txt.startswith k (S (w.cps.toList++[46]))=false) (λds gZ=>⟨λ_ _=>rfl,(λd hd=>by simp at hd)⟩)
  (λds gZ c' j af d xt hM hdj=>?_) (λds gZ af hM=>?_) (λv=>kD rfl))
 ·refine ah (gZ.1 d (List.mem_of_getElem? hdj)) λw bd hw=>?_;subst bd
  have g0:∀y,y≠"mod"->find (upd af "mod" (.d (.str w))) y=find Z y:=λy hy=>by rw[ai,if_neg (λe=>hy e.symm)];exact hM.1 y hy
  have g1:=g0 "self" (by decide)
  have g2:=g0 "modulename" (by decide)
  have g3:find (upd af "mod" (.d (.str w))) "mod"=some (.d (.str w)):=by rw[ai,if_pos rfl]
  rw[f1]at g1
  replace g2:=f2▸g2
  generalize hG:upd af "mod" (.d (.str w))=G at g1 g2 g3
  have hwz:=hTz w hw
  have ew:(LV.d (.str w))=.d (sd w.cps.toList):=congrArg (λz=>LV.d (.str z)) (i6 w)
  have eb:Ev c' n aa G (.BinOp (.Name (Str.ofString "mod") zp) .Add (.Constant (.str (S [46])) kd dp) bp) (.d (sd (w.cps.toList++[46]))):=
   ju (bK (g3.trans (congrArg some ew)) (by unfold eu;decide+kernel)) oP (zA _ _ (by simp;lia))
  have et:Cd c' n aa G (.Call (.Attribute (.Name (Str.ofString "modulename") yp) (Str.ofString "startswith") ap) [.BinOp (.Name (Str.ofString "mod") zp) .Add (.Constant (.str (S [46])) kd dp) bp] [] pos) (Txt.startswith k (S (w.cps.toList++[46]))):=by
   refine qo (l:=.d (.bool _)) (qx (ls:=[.d (sd (w.cps.toList++[46]))]) (bK (g2.trans (congrArg some (congrArg (λz=>LV.d (.str z)) (i6 k):(LV.d (.str k))=.d (sd k.cps.toList)))) (by unfold eu;decide+kernel)) F.plainAttrs_str F.slot_str_startswith F.type_str_startswith nj (gq eb gt (eD rfl)) ?_ (oE rfl) (oY (args:=[_]) (by intro e he;simp at he;refine ab he ?_;rfl) rfl) e7 (by rfl)) (tg _) (sv rfl)
   have:=Bw (c:=c') (n:=n) (x:=k.cps.toList) (y:=w.cps.toList++[46])
   rwa [show S k.cps.toList=k from(i6 k).symm]at this
  refine kH (nF et (λht=>?_) λhf=>ly ⟨λy hy=>by exact rB hG<|g0 y hy,λd hd v hv=>?_⟩)
  ·refine(tY (X.eI xt.eI) hd e8 g1 g2 hk (ha w hw ht)).mono λo ho=>ab ho<|(?_:az.ret _=az.ret _)
   exact ab (ha w hw ht) rfl
  ·rw[List.take_add_one,hdj]at hd
   rcases List.mem_append.mp hd with hd | hd
   ·exact hM.2 d hd v hv
   ·have ck:d=.str w:=by simpa using hd
    replace hv:=ck▸hv
    cases hv
    exact hf
 ·refine h af hM.1 λj hj=>?_
  rw[List.take_length]at hM
  exact hM.2 _ (gZ.2 j hj) j rfl
end
end
section
structure o7(T:Str->Bool)(aM:List Str)(aE:Str->Int):Prop where
 dl:aM.length<=1000
 sz:∀j,T j=true->j.cps.size<=1000
 two:∃k1 k2,T k1=true/\T k2=true/\k1≠k2
noncomputable def mw(T:Str->Bool)(aM:List Str)(aE:Str->Int)(k:Str):Prop:=
 k∈aM/\k.cps.size<=1000/\(T k=true->aE k=1)/\(∀j,T j=true->Txt.startswith k (S (j.cps.toList++[46]))=true->aE k=1)/\(T k=false->(∀j,T j=true->Txt.startswith k (S (j.cps.toList++[46]))=false)->aE k=0)
noncomputable def nh:List Nat:=[47,109,46,112,121]
section
variable {c:Cx} {n:Nat} {aa:Env} {i:fH} {T:Str->Bool} {m:Nat} {aM:List Str} {aE:Str->Int} {k:Str}
theorem DT(X:eU c i T m aM aE)(ok:o7 T aM aE)(hk:mw T aM aE k)(eo:bI c (cU (meth 1)) aa):
  bS c n aa [("self",.d (.ref i.x)),("filename",.d (sd nh)),("modulename",.d (.str k))] (bu (meth 1)) λo=>o=.ret (.int (aE k)):=by
 have hs:=Cv
 have eW:cr c aa "d":=eo.place (.inl (by decide+kernel))
 generalize bu (meth 1)=B at hs⊢
 refine Im hs λa b c' d e r s1 s2 s3 s4 s5 s6=>cw ok.two λk1 k2 t1 t2 au=>rP hk λhd hz a1 a2 a3=>HB X s1 rfl rfl (HA X ok.dl s2 rfl rfl hd a1 λhf=>?_)
 refine HC X ok.dl s3 (eo.place (.inl (by decide+kernel)):cr c aa "mod") rfl rfl hd t1 t2 au hz ok.sz a2 λaf hΓ gE=>?_
 have f1:find af "self"=some (.d (.ref i.x)):=(hΓ _ (by decide)).trans rfl
 have f3:find af "filename"=some (.d (sd nh)):=(hΓ _ (by decide)).trans rfl
 have h0:=a3 hf gE
 have fin:bS c n aa af r λo=>o=.ret (.int (aE k)):=by
   exact ab h0<|(tY (n:=n) (aa:=aa) X ok.dl s6 f1 ((hΓ _ (by decide)).trans rfl:find af "modulename"=some (.d (.str k))) hd h0)
 refine LZ s4 λyp kn np cp bb ip=>g7 (nF (a:=false) (i5 (bK f3 (by unfold eu;decide+kernel)) lE (sF _)) (λh=>nomatch h) λ_=>ly ?_)
 refine(?_:bS c n aa af _ _)
 exact KH s5 λxp p q bb fp=>g7 (z9 eW (ID X f1) (λ_ aF=>aF=af) rfl (λc'' j aF d xt hM hd=>by exact nS hd) (λaF hM=>by exact ab hM<|fin) (λv=>kD rfl))
end
noncomputable def vB(P:Cx->Prop)(n:Nat)(f:Addr)(args:List D)(r:D):Prop:=
 ∀(c:Cx) (A:Around) (s:Shared) (vs:List Value) (Q:Value->Shared->Prop) (E:Value->Shared->Prop),P c->c.Ok->c.held=[]->bh n A->c.h₀=s.heap->c.t₀=s.toks->(∀a,c.O a->a < s.heap.objs.size)->Bs c s->aq s.heap c.O vs args->
  (∀v s',ag s'.heap c.O v r->Step c s s'->Q v s')->wpAny (model pg c.w) A (call (.ref f) vs) Q E s
theorem KW{P:Cx->Prop}{n:Nat}{fa:Addr}{fd:FuncData}{body:List Stmt}{names:List String}{ds:List D}{r:D}(F:cV fa fd body)
  (hY:∀vs:List Value,names.length=vs.length->bindArgs fd ⟨vs,[]⟩=pure ((names.map Str.ofString).zip vs)) (hl:names.length=ds.length) (gd:names.Nodup)
  (hp:∀x∈names,fd.scope.names.lookup (Str.ofString x)=some .local∨fd.scope.names.lookup (Str.ofString x)=some .cell)
  (h:∀(c:Cx) (aa:Env),P c->bI c fd.scope aa->bS c n aa (names.zip (ds.map .d)) body λo=>o=.ret r):vB P (n+1) fa ds r:=by
 intro c A s vs Q E pc ok hh rm h0 ht0 hO b rs k
 refine ah (F.at_ c.w.params) λo ho hd=>ah F.code λcd gg eJ=>?_
 have hlv:names.length=vs.length:=hl.trans rs.length.symm
 refine wpAny_call<|call_cells (binds:=(names.map Str.ofString).zip vs) (by have:=rm.d;refine(?_:A.depth < 1000);lia) (b.sta.k _ _ ho) hd b.sta.nolimit (gg▸codeRec_of (b.sta.cd _ eJ)) F.body (hY vs hlv) F.clo ?_ F.co F.gen F.kind ?_
 ·intro x hx
  refine ah (List.mem_map.mp ((List.of_mem_zip hx).1:x.1∈names.map Str.ofString)) λy hy e=>rB e ?_
  rcases hp y hy with q | q
  ·exact .inl q
  ·exact .inr ⟨q,cellsFrom_some _ _ _ _ q⟩
 ·intro aD eC x
  obtain⟨I,eo⟩:=qj (names:=names) ok hh eC h0 hO b rs hlv gd F.glob F.bins F.kind hp x
  refine(h c _ pc eo).run _ aD _ _ _ (⟨rm.h,by have:=rm.d;refine(?_:A.depth+1+10 * n<=900);lia,by have:=rm.u;refine(?_:A.units+3+100 * n<=9000);lia⟩:bh n (A.deeper (callEnvC fd s.heap.objs.size fa))) I λf s' o ho cb=>?_
  subst ho
  cases f<;>first | exact cb.elim | skip
  exact k _ _ cb.2 ⟨h0▸cb.1.kp,λ_=>cb.1.j,cb.1.os.trans b.os.symm,λ_=>cb.1.gens,ht0▸cb.1.tk⟩
theorem G4{P:Cx->Prop}{c:Cx}{n:Nat}{aa:Env}{Z:Ctx}{A:Around}{s:Shared}{ow:Ow}{fa:Addr}{vs:List Value}{ds:List D}{r:D}{Q:Value->Shared->Prop}{E:Value->Shared->Prop}(rm:bh n A)(I:Inv c aa Z ow s)(rs:aq s.heap (av c ow) vs ds)(hf:vB P n fa ds r)
  (hP:∀c',dN c c'->P c') (k:∀v s',ag s'.heap (av c ow) v r->Step c s s'->Q v s'):wpAny (model pg c.w) A (call (.ref fa) vs) Q E s:=by
 let c':Cx:={c with h₀:=s.heap,O:=av c ow,pin:=λ_=>none,held:=[],t₀:=s.toks}
 have cb:c'.Ok:=⟨I.ok.vd,I.ok.vsa,I.ok.vseq,I.ok.vco,I.ok.jin,I.ok.jk,I.ok.tab,I.ok.tabJ,I.ok.tabK,λa h=>Nat.lt_of_lt_of_le (I.ok.sn a h) I.bs.size,(λ_ _ h=>nomatch h),λtz=>Nat.lt_of_lt_of_le (I.ok.tp tz) I.bs.tk⟩
 refine hf c' A s vs Q E (hP c' ⟨rfl,rfl,rfl,rfl,rfl,rfl⟩) cb rfl rm rfl rfl (λa h=>?_) (⟨.refl _ _,(λ_ _ h=>nomatch h),I.bs.sta,I.bs.j,I.bs.os,I.bs.gens,Nat.le_refl _⟩:Bs c' s) rs λv s' rv st=>k v s' rv ⟨st.kp,st.j,st.os,st.gens,st.tk⟩
 rcases h with h | ⟨x,h⟩
 ·exact Nat.lt_of_lt_of_le (I.oin _ h) I.bs.size
 ·refine bB (I.frm.onew x a h) λ_ _ ar=>cY ar λxs j e=>?_
  exact Heap.lt_size e
theorem ze:cV 168 (fD "names" "_Ignore.names" (meth 1) .none .none nJ 167) (bu (meth 1)):=
 ⟨λP=>⟨_,rfl,rfl⟩,rfl,rfl,⟨167,rfl,by decide+kernel⟩,rfl,rfl,rfl,rfl,rfl⟩
theorem Lm(P:Params):typeIn (Mine.K P) (.ref 168)=some (.type "function"):=by rfl
section
variable {c:Cx} {n:Nat} {i:fH} {T:Str->Bool} {m:Nat} {aM:List Str} {aE:Str->Int} {k:Str}
theorem GN(ok:o7 T aM aE)(hk:mw T aM aE k):vB (λc=>eU c i T m aM aE) (n+1) 168 [.ref i.x,sd nh,.str k] (.int (aE k)):=
 KW ze (names:=["self","filename","modulename"]) (ny "self" "filename" "modulename") rfl (by decide) (by decide+kernel) λc aa X eo=>DT X ok hk eo
theorem Gz(X:eU c i T m aM aE)(ok:o7 T aM aE)(hk:mw T aM aE k):AN c (n+1) i.x "names" [sd nh,.str k] (.int (aE k)):=by
 intro aa Z o apos pos args ho ha fA hl dj i7
 refine⟨λA s Q E ow rm I q=>?_⟩
 rw[arm_eval_Call,oE fA]
 refine wpAny_bind (wpAny_mono (Q:=λov s1=>ov=.ref i.x/\Step c s s1/\True) (E:=E) (ho.run A s _ E ow rm I λv s1 rv al=>?_) (λov s1 h1=>?_) λ_ _ e=>e)
 ·have hv:v=.ref i.x:=by refine ag.rf rv ?_;rfl
  exact dQ hv al trivial
 refine bB h1 λaw al _=>ab aw ?_
 have I1:=I.step al
 refine wpAny_bind (wpAny_standAt ?_)
 have hform:methodCallForm (args.length+([]:List Keyword).length) (backTo pos (starEach args aa)) (backToKw pos (keywordEach [] aa))=true:=oY dj hl
 have hpos:methodCallPos true o aa apos pos=pure pos:=by unfold methodCallPos;simp only[i7];rfl
 dsimp only[methodCall]
 refine ab hform<|ah (X.j _ I1.bs.j) λcc hi _=>nM hi.dx λes kk h1 h2 h3 h4 h5=>?_
 have hsh:shadowIn (some (dictOf es kk)) "names"=some false:=by
  show(lookIn "names" (dictOf es kk)).map _=_
  rw[lookIn_dict,h5];rfl
 refine wpAny_bind (wpAny_holding ?_)
 refine method_fn I1.bs.sta.k (⟨hi.x,rfl,rfl,h1⟩:InstAt s1.heap i.x (instObj 171 i.dx) 171 (some (dictOf es kk))) (qU _) (L5 _) (Gg _) (Lm _) hsh<|wpAny_bind (wpAny_of_eq hpos ?_)
 refine ah (ze.at_ c.w.params) λob g1 g2=>callWith_function (o:=ob) (fd:=fD "names" "_Ignore.names" (meth 1) .none .none nJ 167) (gi (jq dj) (ha A s1 _ E ow rm I1 λvs s2 rs aG=>?_))
 have I2:=I1.step aG
 refine⟨⟨I2.bs.sta.k _ _ g1,g2⟩,?_⟩
 exact G4 rm I2 (.cons (.ref i.x) rs.reps) (GN (m:=m) ok hk) (λc' lk=>X.eI lk) λv s' rv st=>q v s' rv (al.trans (aG.trans st))
end
end
section
open PySem PySem.SeqAt PySem.W PySem.Calls PyProof.Rows PySem.Challenge Builtin Builtin.ObjectAttr
theorem C7(P:Params):findIn (Mine.K P) (.ref 171) "__setattr__"=some (some (.builtin "object.__setattr__")):=by rfl
theorem FY(P:Params):plainOver (Mine.K P) 171=true:=by rfl
theorem DX(P:Params):takerIn (Mine.K P) 171 "_mods"=some none:=by rfl
theorem DY(P:Params):takerIn (Mine.K P) 171 "_dirs"=some none:=by rfl
theorem Cm(P:Params):takerIn (Mine.K P) 171 "_ignore"=some none:=by rfl
section
variable {w:World} {A:Around} {E:Value->Shared->Prop} {s:Shared} {x dx:Addr}
set_option tactic.hygienic true in
theorem HO{f:Str}{v:Value}{es:List DictEntry}{k:Nat}{Q:Unit->Shared->Prop}(K:(Mine.K w.params).In s.heap)(hx:s.heap.get? x=some (instObj 171 dx))(hd:s.heap.get? dx=some (dictOf es k))(ht:takerIn (Mine.K w.params) 171 f=some none)
  (hl:(getL f es).isSome=true) (hz:(putL f (PyData.keyHash w.params f) (.str f (s.toks+1)) v es).length<=1000)
  (h:∀h',Heap.SameBut dx s.heap h'->h'.get? dx=some (dictOf (putL f (PyData.keyHash w.params f) (.str f (s.toks+1)) v es) (putN f es k))->Q () {s with heap:=h',toks:=s.toks+2}):wpAny (model pg w) A (setAttr (.ref x) f v) Q E s:=by
 have I:InstAt s.heap x (instObj 171 dx) 171 (some (dictOf es k)):=⟨hx,rfl,rfl,hd⟩
 refine set_plain K I (C7 _) (osa_open (s:={s with toks:=s.toks+1}) K I (FY _) ht λb=>?_)
 refine ah (any_some (pV w.params)) λcd hc ck=>?_
 have hx':({s with toks:=s.toks+1}:Shared).heap.get? x=some (instObj 171 dx):=hx
 refine wpAny_bind (wpAny_pure (wpAny_bind (wpAny_bind (wpAny_loadPart hx' (wpAny_bind ((looks_clsIn K hc).at ?_))))))
 refine ab ck<|wpAny_pure (a:=some dx) (wpAny_bind (wpAny_pure (wpAny_bind ?_)))
 refine wpAny_bind (wpAny_bind (wpAny_askSetting (wpAny_pure (wpAny_bind (wpAny_mkText (wpAny_bind (wpAny_loadPart hd ?_)))))))
 rw[<- lookIn_dict f es k]at hl
 unfold lookIn at hl
 dsimp only at hl⊢
 have c:(!es.toArray.any (·.key.isStr f)&&es.toArray.any (·.refKey))=false:=by
  refine rB Array.any_toList<|rB Array.any_toList ?_
  split at hl
  ·rename_i en he
   refine ab (List.any_eq_true.mpr ⟨en,List.mem_of_find?_eq_some he,List.find?_some he⟩) ?_;rfl
  ·split at hl
   ·exact fT hl
   ·rename_i z;rw[Bool.not_eq_true]at z;refine ab z ?_;rw[Bool.and_false]
 rw[aRefKeyMayBeTheName_at,c]
 have up:=Heap.get?_update_self (Obj.putName f (PyData.keyHash w.params f) (.str f (s.toks+1)) v) hd (by rw[putName_dict];rfl)
 rw[putName_dict]at up
 refine wpAny_updatePart hd<|wpAny_bind (wpAny_lookBehind up (pastItsLine_dict (by exact ab List.size_toArray<|ab sizeLine_eq<|Nat.le_trans ‹_› (Nat.le_of_ble_eq_true rfl))) ?_)
 exact wpAny_pure (h _ (Heap.SameBut.update ..) up)
end
end
section
noncomputable def u5(e:Stmt):Bool:=cm (dA (l1 (j7 "_mods")) (vw (nY (L .Not) (cN (N "modules") H) H) H (cC (cN (N "set") H) (l1 (cN (N "modules") H)) nl H) H) H) e
noncomputable def u4(e:Stmt):Bool:=cm (dA (l1 (j7 "_dirs")) (vw (nY (L .Not) (cN (N "dirs") H) H) (cL nl H) H H) H) e
noncomputable def u3(e:Stmt):Bool:=cm (dA (l1 (j7 "_ignore")) (cD (l1 (sm (cK (kS (L ("<string>":Str))) H H))) (l1 (cK (kI (L 1)) H H)) H) H) e
noncomputable def zI(e:List Stmt):Bool:=cm (l3 (F u5) (F u4) (F u3)) e
section
variable {G:Stmt->Prop} {st:Stmt}
@[elab_as_elim] theorem Lu(h:u5 st=true)(k:∀p tp yp np z gp zp cp ip sp,G (.Assign [(.Attribute (.Name (Str.ofString "self") p) (Str.ofString "_mods") tp)] (.IfExp (.UnaryOp .Not (.Name (Str.ofString "modules") yp) np) z (.Call (.Name (Str.ofString "set") gp) [.Name (Str.ofString "modules") zp] [] cp) ip) sp)):G st:=aQ h λs=>k _ _ _ _ _ _ _ _ _ _
@[elab_as_elim] theorem Ls(h:u4 st=true)(k:∀p tp yp np lp e ip sp,G (.Assign [(.Attribute (.Name (Str.ofString "self") p) (Str.ofString "_dirs") tp)] (.IfExp (.UnaryOp .Not (.Name (Str.ofString "dirs") yp) np) (.List [] lp) e ip) sp)):G st:=aQ h λs=>k _ _ _ _ _ _ _ _
@[elab_as_elim] theorem Lr(h:u3 st=true)(k:∀p tp dk dp ak ap dp2 sp,G (.Assign [(.Attribute (.Name (Str.ofString "self") p) (Str.ofString "_ignore") tp)] (.Dict [some (.Constant (.str ("<string>":Str)) dk dp)] [.Constant (.int 1) ak ap] dp2) sp)):G st:=aQ h λs=>k _ _ _ _ _ _ _ _
@[elab_as_elim] theorem KA{G:List Stmt->Prop}{b:List Stmt}(h:zI b=true)(k:∀a b d,u5 a=true->u4 b=true->u3 d=true->G [a,b,d]):G b:=aQ h λs=>k _ _ _ s.1.2 s.2.1.2 s.2.2.1.2
end
theorem Dp:zI (bu (meth 0))=true:=by decide+kernel
noncomputable def iZ:Str:="<string>"
section
variable {c:Cx} {n:Nat} {aa:Env} {Z:Ctx} {ow:Ow} {x dx:Addr}
structure k9(c:Cx)(aa:Env)(x dx:Addr):Prop where
 ge:c.h₀.objs.size<=dx
 nD:¬c.D dx
 nDx:¬c.D x
 ne:x≠dx
 nL:aa.locals≠dx
 pin:c.pin dx=none
theorem k9.nV(X:k9 c aa x dx)(ok:c.Ok):¬c.V dx:=λv=>X.nD (ok.vd _ v)
theorem k9.nVx(X:k9 c aa x dx)(ok:c.Ok):¬c.V x:=λv=>X.nDx (ok.vd _ v)
theorem Inv.fld{s:Shared}(I:Inv c aa Z ow s)(X:k9 c aa x dx){es:List DictEntry}{k:Nat}(hd:s.heap.get? dx=some (dictOf es k)){h':Heap}{tk:Nat}(hs:Heap.SameBut dx s.heap h')(ht:s.toks<=tk):Inv c aa Z ow {s with heap:=h',toks:=tk}:=
 I.u7 (λb o hb e=>(hs.2 b hb).trans e) (Nat.le_of_eq hs.1.symm) X.ge X.nD X.pin (λo e=>by
  replace e:=hd▸e;exact aC e<|dQ (λ_ _ e=>nomatch e) (λa e=>nomatch (congrArg Obj.data e:Data.dict _ _=Data.fields _)) (λ⟨_,_,_,e,_⟩=>nomatch (e:Data.dict _ _=Data.fields _))) X.nL (λ{cl v} hc e=>by
  subst e
  refine ah hc λo ho ck=>?_
  replace ho:=hd▸ho;obtain rfl:=Option.some.inj ho
  cases ck) ht
theorem tB(f:Str)(h:Int)(k v:Value)(es:List DictEntry):(putL f h k v es).length<=es.length+1:=by
 induction es with
 | nil=>
  exact Nat.le_refl _
 | cons e r ih=>
  rw[putL]
  refine bq (λ_=>?_) λ_=>?_
  ·simp
  ·simp only[List.length_cons]
   have:=ih
   lia
theorem uU{A:Around}{s:Shared}{p:Pos}{f:Str}{v:Value}{es:List DictEntry}{k:Nat}{Q:Shared->Prop}{E:Value->Shared->Prop}(rm:bh n A)(X:k9 c aa x dx)(f1:find Z "self"=some (.d (.ref x)))(ht:takerIn (Mine.K c.w.params) 171 f=some none)
  (hl:(getL f es).isSome=true) (hz:∀t,(putL f (PyData.keyHash c.w.params f) (.str f t) v es).length<=1000)
  (I:Inv c aa Z ow s) (hx:s.heap.get? x=some (instObj 171 dx)) (hd:s.heap.get? dx=some (dictOf es k))
  (h:∀h' t,Heap.SameBut dx s.heap h'->h'.get? dx=some (dictOf (putL f (PyData.keyHash c.w.params f) (.str f t) v es) (putN f es k))->Inv c aa Z ow {s with heap:=h',toks:=s.toks+2}->Q {s with heap:=h',toks:=s.toks+2}):
  wpAny (model pg c.w) A (eval (.Name (Str.ofString "self") p) aa) (λov s2=>wpAny (model pg c.w) A (setAttr ov f v) (λ_=>Q) E s2) E s:=by
 refine iX I f1 rm λo r=>?_
 have ho:o=.ref x:=by refine ag.rf r ?_;rfl
 exact ab ho<|HO I.bs.sta.k hx hd ht hl (hz _) λh' hs hg=>h h' _ hs hg (I.fld X hd hs (by lia))
theorem wb{A:Around}{s:Shared}{y:String}{yp np:Pos}{d:D}{b:Bool}{a2 b2:Expr}{ip:Pos}{Q:Value->Shared->Prop}{E:Value->Shared->Prop}(rm:bh n A)(I:Inv c aa Z ow s)(f1:find Z y=some (.d d))(hg:eu y)(ht:ll c n (.d d) b)
  (h:∀s1,Step c s s1->wpAny (model pg c.w) A (eval (if b then b2 else a2) aa) Q E s1):wpAny (model pg c.w) A (eval (.IfExp (.UnaryOp .Not (.Name (Str.ofString y) yp) np) a2 b2 ip) aa) Q E s:=by
 refine wpAny_bind ((zP (qo (bK f1 hg) ht (sv rfl)):Cd c n aa Z (.UnaryOp .Not (.Name (Str.ofString y) yp) np) (!b)) A s _ E ow rm I λs1 al=>?_)
 have:=h s1 al
 cases b with
 | true=>exact this
 | false=>exact this
theorem HK{h:Heap}{O:Addr->Prop}{vs:List Value}{xs:List (List Nat)}(r:aq h O vs (xs.map sd))(j:Nat)(v:Value)(e:vs[j]? =some v):∃k u,xs[j]? =some k/\v=.str (S k) u:=by
 induction xs generalizing vs j with
 | nil=>exact aq.bO r (λe=>nS e) e
 | cons x xs ih=>
  refine aq.bn r (λw cu a r e=>?_) e
  cases j with
  | zero=>exact ag.bw a (λt e=>⟨x,t,rfl,(Option.some.inj e).symm⟩) e
  | succ j=>exact ih r j e
noncomputable abbrev zH(x:Addr)(xs:List (List Nat)):Ctx:=[("self",.d (.ref x)),("modules",.d (.list (xs.map sd))),("dirs",.d .none)]
theorem Hg{A:Around}{s:Shared}{xs:List (List Nat)}{Q:Flow->Shared->Prop}{E:Value->Shared->Prop}(rm:bh n A)(X:k9 c aa x dx)(eo:bI c (cU (meth 0)) aa)(hxs:xs≠[])(aV:xs.length<=1000)(hh:A.handled=none)
  (I:Inv c aa [("self",.d (.ref x)),("modules",.d (.list (xs.map sd))),("dirs",.d .none)] ow s) (hx:s.heap.get? x=some (instObj 171 dx)) (hd:s.heap.get? dx=some (dictOf [] 0))
  (q:∀i s',i.x=x->i.dx=dx->s.heap.objs.size<=i.sa->s.heap.objs.size<=i.la->s.heap.objs.size<=i.ma->i.ma≠i.sa->i.ma≠i.la->jb c.w i (fZ (xs.map S)) xs.length [(iZ,1)] s'.heap->(∃af,Inv c aa af ow s')->Q .next s'):
  wpAny (model pg c.w) A (execs (bu (meth 0)) aa) Q E s:=by
 have hs:=Dp
 generalize bu (meth 0)=B at hs⊢
 refine KA hs λa b d s1 s2 s3=>Lu s1 λp tp yp np z gp zp cp ip sp=>wpAny_execs_cons (plainObj_wpAny_Assign_Attribute (wb (d:=.list (xs.map sd)) rm I rfl (by unfold eu;decide+kernel) (xK (fm _) (by rw[List.length_map];lia)) λs1 al=>?_))
 have hb:(!(xs.map sd).isEmpty)=true:=by cases xs with | nil=>exact absurd rfl hxs | cons _ _=>rfl
 rw[hb]
 simp only[if_true]
 have I1:=I.step al
 refine Call_Name rfl (iU I1 GH (eo.kind (by decide+kernel)) (by decide+kernel) (PyProof.Rows.callWith_type rfl (Calls.evalArgs_plain (Calls.spliced_cons (iX I1 (x:="modules") (l:=.d (.list (xs.map sd))) rfl rm (λvm rv=>Calls.spliced_nil ?_))))))
 refine ag.listE rv λl vs ho la rs=>?_
 have hvl:vs.length=xs.length:=by rw[rs.length,List.length_map]
 refine iw (BJ (w:=c.w) (xs:=xs.map S) hh la.isList (by rw[List.size_toArray,List.length_map,hvl]) (by rw[List.length_map];unfold scanBound;lia) (λj v hv=>?_) λh2 t2 hS gX hz2=>?_)
 ·have hv':vs[j]? =some v:=by simpa using hv
  exact cR (HK rs j v hv') λk u w1 w2=>⟨S k,u,by rw[List.getElem?_map,w1];rfl,w2⟩
 have aG:Step c s1 {s1 with heap:=h2,toks:=t2}:=.keep I1.ok hz2.1 gX rfl rfl hz2.2
 have I2:=I1.step aG
 have nV:=X.nV I.ok
 have nVx:=X.nVx I.ok
 have hx1:=al.kp.2 _ _ nVx hx
 have hd1:=al.kp.2 _ _ nV hd
 have szs:s.heap.objs.size<=s1.heap.objs.size:=al.kp.1
 have dlt1:dx < s1.heap.objs.size:=Heap.lt_size hd1
 refine uU (es:=[]) (k:=0) rm X rfl (DX _) rfl (λt=>Nat.le_trans (tB _ _ _ _ _) (by decide)) I2 (gX _ _ hx1) (gX _ _ hd1) λh3 t3 hs3 hg3 I3=>?_
 have nesa:s1.heap.objs.size≠dx:=Nat.ne_of_gt dlt1
 have hS3:SSet c.w h3 s1.heap.objs.size (fZ (xs.map S)) xs.length:=by
  have:=hS.keeps (h':=h3) λo e=>(hs3.2 _ nesa).trans e
  have ez:vs.toArray.size=xs.length:=by rw[List.size_toArray,hvl]
  rwa [ez]at this
 have hx3:h3.get? x=some (instObj 171 dx):=(hs3.2 _ X.ne).trans (gX _ _ hx1)
 have sz3:h3.objs.size=h2.objs.size:=hs3.1
 refine Ls s2 λp2 tp2 yp2 np2 lp e2 ip2 sp2=>wpAny_execs_cons (plainObj_wpAny_Assign_Attribute (wb (d:=.none) rm I3 rfl (by unfold eu;decide+kernel) xJ λs4 iJ=>?_))
 simp only[Bool.false_eq_true,if_false]
 have I4:=I3.step iJ
 have hx4:=iJ.kp.2 _ _ nVx hx3
 have hd4:=iJ.kp.2 _ _ nV hg3
 have sz4:h3.objs.size<=s4.heap.objs.size:=iJ.kp.1
 refine List_ (spliced_nil ?_)
 show wpAny _ A (newObj (.type "list") (.seq #[])) _ _ s4
 refine wpAny_newObj_type ?_ (by size_fits)
 have st5:Step c s4 {s4 with heap:=s4.heap.push {cls:=.type "list",data:=.seq #[]}}:=.push I4.ok _ s4.toks
 have I5:=I4.step st5
 refine uU (k:=1) rm X rfl (DY _) (by rfl) (λt=>Nat.le_trans (tB _ _ _ _ _) (Nat.le_of_ble_eq_true rfl)) I5 (Heap.get?_push_of_some _ hx4) (Heap.get?_push_of_some _ hd4) λh6 t6 hs6 hg6 I6=>?_
 have nela:s4.heap.objs.size≠dx:=Nat.ne_of_gt (Heap.lt_size hd4)
 have hsa:s1.heap.objs.size < s4.heap.objs.size:=by
  exact nK hS3 λo _ _ _ y=>Nat.lt_of_lt_of_le (Heap.lt_size y.at_) sz4
 have nVsa:¬c.V s1.heap.objs.size:=λv=>gr I1.ok I1.bs (Nat.le_refl _) (I1.ok.vd _ v)
 have hS6:SSet c.w h6 s1.heap.objs.size (fZ (xs.map S)) xs.length:=hS3.keeps λo e=>(hs6.2 _ nesa).trans (Heap.get?_push_of_some _ (iJ.kp.2 _ _ nVsa e))
 have hx6:h6.get? x=some (instObj 171 dx):=(hs6.2 _ X.ne).trans (Heap.get?_push_of_some _ hx4)
 have hl6:h6.get? s4.heap.objs.size=some {cls:=.type "list",data:=.seq #[]}:=(hs6.2 _ nela).trans (Heap.get?_push_size _ rfl)
 have sz6:h6.objs.size=s4.heap.objs.size+1:=hs6.1.trans (Heap.size_push ..)
 refine Lr s3 λp3 tp3 dk dp ak ap3 dpp sp3=>wpAny_execs_cons (plainObj_wpAny_Assign_Attribute ?_)
 generalize hs6':({s4 with heap:=h6,toks:=s4.toks+2}:Shared)=s6 at I6
 have eh:s6.heap=h6:=by rw[<- hs6']
 refine wpAny_Dict_pairs (knd:=PySem.strKind pg c.w) (pairs:=[(eval (.Constant (.str ("<string>":Str)) dk dp) aa,do let x <- eval (.Constant (.int 1) ak ap3) aa;standAt dpp;pure x)]) rfl (by simp) (by simp) ?_
 have hnew:=Heap.DictOf.new (knd:=PySem.strKind pg c.w) s6.heap
 have stp:Step c s6 {s6 with heap:=s6.heap.push {cls:=.type "dict",data:=.dict #[]}}:=.push I6.ok _ s6.toks
 have I7:=I6.step stp
 refine evalPairs_cons (oP.run (c:=c) (n:=n) (Z:=zH x xs) A _ _ E ow rm I7 λvk s8 rk st8=>?_)
 refine ag.bw rk λtk=>?_
 have I8:=I7.step st8
 refine wpAny_bind (gP.run (c:=c) (n:=n) (Z:=zH x xs) A s8 _ E ow rm I8 λvi s9 ri st9=>wpAny_bind (wpAny_standAt (wpAny_pure (evalPairs_nil ?_))))
 refine ag.bf ri λti=>?_
 have I9:=I8.step st9
 have st79:=st8.trans st9
 have nVm:¬c.V s6.heap.objs.size:=λv=>I6.freshD (I6.ok.vd _ v)
 have hnew9:s9.heap.DictOf (PySem.strKind pg c.w) s6.heap.objs.size []:=by
  obtain⟨o,es,ep,ho,r⟩:=hnew
  exact⟨o,es,ep,st79.kp.2 _ _ nVm ho,r⟩
 refine⟨[(("<string>":Str),.int 1 ti)],⟨strKind_is _ _ _ _,rfl,trivial⟩,hnew9,λh' ck iu=>?_⟩
 have sz9:s6.heap.objs.size+1<=s9.heap.objs.size:=by
  have h1:=st79.kp.1
  have h2:({s6 with heap:=s6.heap.push {cls:=.type "dict",data:=.dict #[]}}:Shared).heap.objs.size=s6.heap.objs.size+1:=Heap.size_push ..
  rw[h2]at h1;exact h1
 have keep:∀b o,¬c.V b->b≠s6.heap.objs.size->s6.heap.get? b=some o->h'.get? b=some o:=λb o hv hb e=>(iu.2 b hb).trans (st79.kp.2 b o hv (Heap.get?_push_of_some _ e))
 have st10:Step c s6 {s9 with heap:=h',toks:=s9.toks+1}:=by
  have a1:=stp.trans st79
  refine⟨⟨Nat.le_trans a1.kp.1 (Nat.le_of_eq iu.1.symm),λb o hv e=>keep b o hv (Nat.ne_of_lt (Heap.lt_size e)) e⟩,λj=>I6.ok.jk _ _ (a1.j j) (λb hb o e=>(iu.2 b λq=>I6.freshD (q▸hb)).trans e) (λb o hc e=>(iu.2 b λq=>?_).trans e),a1.os,a1.gens,Nat.le_succ_of_le a1.tk⟩
  subst q
  obtain⟨o',iN,ep',ho',hex',hd2,_⟩:=hnew9
  rw[ho']at e;cases e
  obtain⟨cu,q',t',hq,_⟩:=hc
  rw[hd2]at hq;cases hq
 have I10:=I6.step st10
 have hx10:h'.get? x=some (instObj 171 dx):=keep _ _ nVx (Nat.ne_of_lt (Heap.lt_size (eh▸hx6))) (eh▸hx6)
 have hd10:=keep _ _ nV (Nat.ne_of_lt (Heap.lt_size (eh▸hg6))) (eh▸hg6)
 refine uU (s:={s9 with heap:=h',toks:=s9.toks+1}) (k:=2) rm X rfl (Cm _) (by rfl) (λt=>Nat.le_trans (tB _ _ _ _ _) (Nat.le_of_ble_eq_true rfl)) I10 hx10 hd10 λh11 t11 hs11 hg11 I11=>?_
 have hx11:h11.get? x=some (instObj 171 dx):=(hs11.2 _ X.ne).trans hx10
 have n6:s6.heap.objs.size≠dx:=Nat.ne_of_gt (Heap.lt_size (eh▸hg6))
 have e6:s6.heap.objs.size=s4.heap.objs.size+1:=by rw[eh];exact sz6
 have nVla:¬c.V s4.heap.objs.size:=λv=>I4.freshD (I4.ok.vd _ v)
 have hl11:h11.get? s4.heap.objs.size=some {cls:=.type "list",data:=.seq #[]}:=(hs11.2 _ nela).trans (keep _ _ nVla (by rw[e6];exact Nat.ne_of_lt (Nat.lt_succ_self _)) (eh▸hl6))
 have hS11:SSet c.w h11 s1.heap.objs.size (fZ (xs.map S)) xs.length:=hS6.keeps λo e=>(hs11.2 _ nesa).trans (keep _ _ nVsa (by rw[e6];exact Nat.ne_of_lt (Nat.lt_succ_of_lt hsa)) (eh▸e))
 have hm11:StrTab pg c.w h11 s6.heap.objs.size (kdpD [(iZ,1)]):=by
  refine⟨?_,[(iZ,.int 1 ti)],?_,.cons (PyProof.V.Flat.int _ _) .nil⟩
  ·have h3:=I.ok.sn 3 (by decide+kernel)
   have h4:=I6.bs.size
   have h5:3 < s6.heap.objs.size:=Nat.lt_of_lt_of_le h3 h4
   show(s6.heap.objs.size==1)=false
   exact beq_false_of_ne (Nat.ne_of_gt (Nat.lt_trans (by decide) h5))
  ·obtain⟨o,es,ep,ho,r⟩:=ck
   exact⟨o,es,ep,(hs11.2 _ n6).trans ho,r⟩
 refine wpAny_execs_nil (q ⟨x,dx,s1.heap.objs.size,s4.heap.objs.size,s6.heap.objs.size⟩ _ rfl rfl szs ?_ ?_ ?_ ?_ ⟨hx11,⟨_,_,hg11,rfl,rfl,rfl,rfl⟩,hS11,⟨_,hl11⟩,hm11⟩ ⟨_,I11⟩)
 ·exact Nat.le_trans szs (Nat.le_of_lt hsa)
 ·show s.heap.objs.size<=s6.heap.objs.size
  rw[e6];exact Nat.le_trans szs (Nat.le_of_lt (Nat.lt_succ_of_lt hsa))
 ·show s6.heap.objs.size≠s1.heap.objs.size
  rw[e6];exact Nat.ne_of_gt (Nat.lt_succ_of_lt hsa)
 ·show s6.heap.objs.size≠s4.heap.objs.size
  rw[e6];exact Nat.ne_of_gt (Nat.lt_succ_self _)
end
end
section
noncomputable def nT:FuncData:=fD "__init__" "_Ignore.__init__" (meth 0) (.ref 156) .none nJ 160
theorem jA:cV 161 nT (bu (meth 0)):=
 ⟨λP=>⟨_,rfl,rfl⟩,rfl,rfl,⟨160,rfl,by decide+kernel⟩,rfl,rfl,rfl,rfl,rfl⟩
theorem Ml{w:World}{A:Around}{s:Shared}{Q:List (Str×Value)->Shared->Prop}{E:Value->Shared->Prop}{a b:Value}(S:gh w s.heap)(h:Q [(Str.ofString "self",a),(Str.ofString "modules",b),(Str.ofString "dirs",.none)] s):wpAny (model pg w) A (bindArgs nT ⟨[a,b],[]⟩) Q E s:=by
 unfold bindArgs
 refine wpAny_bind (wpAny_pure ?_)
 refine wpAny_bind (wpAny_seqItems (S.k 156 _ (by rfl)) rfl ?_)
 exact wpAny_of_eq (a:=[(Str.ofString "self",a),(Str.ofString "modules",b),(Str.ofString "dirs",.none)]) (by kernel_rfl) h
structure Made(w:World)(s:Shared)(xs:List (List Nat))(i:fH)(h:Heap):Prop where
 at_:jb w i (fZ (xs.map S)) xs.length [(iZ,1)] h
 dx:s.heap.objs.size<=i.dx
 x:s.heap.objs.size<=i.x
 sa:s.heap.objs.size<=i.sa
 la:s.heap.objs.size<=i.la
 ma:s.heap.objs.size<=i.ma
 ne1:i.ma≠i.x
 ne2:i.ma≠i.dx
 ne3:i.ma≠i.sa
 ne4:i.ma≠i.la
theorem Ag{a b:Nat}(h:b < a):a≠b:=Nat.ne_of_gt h
section
variable {c:Cx} {n:Nat} {aa:Env} {Z:Ctx}
theorem E9{A:Around}{s:Shared}{ow:Ow}{l:Addr}{xs:List (List Nat)}{Q:Value->Shared->Prop}{E:Value->Shared->Prop}(rm:bh (n+1) A)(I:Inv c aa Z ow s)(rl:ag s.heap (av c ow) (.ref l) (.list (xs.map sd)))(hxs:xs≠[])(aV:xs.length<=1000)
  (k:∀i s',Step c s s'->Made c.w s xs i s'.heap->Q (.ref i.x) s'):wpAny (model pg c.w) A (call (.ref 171) [.ref l]) Q E s:=by
 refine wpAny_call ?_
 have Y:Makes (model pg c.w) s.heap 171:=makes_of I.bs.sta.k (LQ _)
 obtain⟨h,g,d,t,os⟩:=s
 refine make_core Y (looks_findIn I.bs.sta.k (IE _)) (λself=>bind_fn I.bs.sta.k self (Ln _)) (.inl rfl) ?_
 generalize hA:A.under (.builtin "type.__call__" ⟨.ref 171::[.ref l],[]⟩)=A1
 have hA1:A1.depth=A.depth+1/\A1.handled=A.handled/\A1.units=A.units+1:=by
  subst hA
  exact dQ rfl rfl rfl
 let s0:Shared:=⟨h,g,d,t,os⟩
 let c1:Cx:={c with h₀:=h,O:=av c ow,pin:=λ_=>none,held:=[],t₀:=t}
 have ok1:c1.Ok:=⟨I.ok.vd,I.ok.vsa,I.ok.vseq,I.ok.vco,I.ok.jin,I.ok.jk,I.ok.tab,I.ok.tabJ,I.ok.tabK,λa ha=>Nat.lt_of_lt_of_le (I.ok.sn a ha) I.bs.size,(λ_ _ h=>nomatch h),λtz=>Nat.lt_of_lt_of_le (I.ok.tp tz) I.bs.tk⟩
 have b1:Bs c1 s0:=⟨.refl _ _,(λ_ _ h=>nomatch h),I.bs.sta,I.bs.j,I.bs.os,I.bs.gens,Nat.le_refl _⟩
 generalize cz:(⟨(h.push emptyDict).push (instObj 171 h.objs.size),g,d,t,os⟩:Shared)=s1
 have z1:(h.push emptyDict).objs.size=h.objs.size+1:=Heap.size_push ..
 have eh1:s1.heap=(h.push emptyDict).push (instObj 171 h.objs.size):=by exact rB cz rfl
 have z2:s1.heap.objs.size=h.objs.size+2:=by refine ab eh1 ?_;rw[Heap.size_push,z1]
 have kp1:∀b o,h.get? b=some o->s1.heap.get? b=some o:=λb o e=>by exact ab eh1<|Heap.get?_push_of_some _ (Heap.get?_push_of_some _ e)
 have al:Step c1 s0 s1:=.keep ok1 (by refine(?_:h.objs.size<=_);lia) kp1 (by exact rB cz rfl) (by exact rB cz rfl) (by exact rB cz<|Nat.le_refl _)
 have b2:=b1.step ok1 al
 have hx:s1.heap.get? (h.objs.size+1)=some (instObj 171 h.objs.size):=by
  have:((h.push emptyDict).push (instObj 171 h.objs.size)).get? (h.push emptyDict).objs.size=some (instObj 171 h.objs.size):=Heap.get?_push_size _ rfl
  rw[z1]at this
  exact ab eh1 this
 have hd:s1.heap.get? h.objs.size=some (dictOf [] 0):=by
  exact ab eh1<|Heap.get?_push_of_some _ (Heap.get?_push_size _ rfl)
 refine ah (jA.at_ c.w.params) λo ho hdat=>ah jA.code λcd gg eJ=>?_
 have rmA:A1.depth+10 * (n+1)<=901/\A1.units+100 * (n+1)<=9001:=⟨by have:=rm.d;lia,by have:=rm.u;lia⟩
 refine wh (vals:=[.ref (h.objs.size+1),.ref l]) (kw:=[]) (binds:=(["self","modules","dirs"].map Str.ofString).zip [.ref (h.objs.size+1),.ref l,.none]) (by refine(?_:A1.depth < 1000);lia) (b2.sta.k _ _ ho) hdat b2.sta.nolimit (gg▸codeRec_of (b2.sta.cd _ eJ)) jA.body (λQ E q=>Ml b2.sta q) jA.clo ?_ jA.co jA.gen jA.kind ?_
 ·intro y hy
  have hp:∀x∈["self","modules","dirs"],nT.scope.names.lookup (Str.ofString x)=some .local∨nT.scope.names.lookup (Str.ofString x)=some .cell:=by decide+kernel
  refine ah (List.mem_map.mp (List.of_mem_zip hy).1) λz hz e=>rB e ?_
  rcases hp z hz with q | q
  ·exact .inl q
  ·exact .inr ⟨q,cellsFrom_some _ _ _ _ q⟩
 ·intro aD eC x
  refine bR (xv (c:=c1) (names:=["self","modules","dirs"]) ok1 rfl eC (by refine(?_:h.objs.size<=_);lia) (λa ha=>uP I ha) b2 (.cons (.ref _) (.cons (rl.step (c:=c1) (s:=s0) ok1 b1 al) (.cons .none .nil)):aq s1.heap c1.O [.ref (h.objs.size+1),.ref l,.none] [.ref (h.objs.size+1),.list (xs.map sd),.none]) rfl (of_decide_eq_true rfl) jA.glob jA.bins jA.kind (by decide+kernel) x) λI1 eo=>?_
  have hLs:=x.toInCall.fresh
  have keep:=x.toInCall.keep
  have X:k9 c1 (callEnvC nT s1.heap.objs.size 161) (h.objs.size+1) h.objs.size:=⟨Nat.le_refl _,gr ok1 b1 (Nat.le_refl _),gr ok1 b1 (Nat.le_succ _),Nat.succ_ne_self _,λe=>by
   lia,rfl⟩
  refine Hg (c:=c1) (⟨by refine(?_:A1.handled=none);exact ab hA1.2.1<|rm.h,by refine(?_:A1.depth+1+10 * n<=900);lia,by refine(?_:A1.units+3+100 * n<=9000);lia⟩:bh n (A1.deeper (callEnvC nT s1.heap.objs.size 161))) X eo hxs aV (by refine(?_:A1.handled=none);exact ab hA1.2.1<|rm.h) I1 (keep _ _ hx) (keep _ _ hd) λi s' ix dJ h1 h2 h3 h4 h5 d0 hI=>?_
  obtain⟨af,I'⟩:=hI
  refine⟨rfl,?_⟩
  have szs:s1.heap.objs.size<=aD.heap.objs.size:=by
   refine cY x.toInCall.same λh' tk e=>?_
   by_cases q:s1.heap.objs.size<=aD.heap.objs.size
   ·exact q
   ·exact Nat.le_of_lt (Nat.lt_of_le_of_lt hLs (by exact fz x.toInCall.ns λo _ _ ho _=>Heap.lt_size ho))
  have:=k i s' ⟨I'.bs.kp,λ_=>I'.bs.j,I'.bs.os.trans I.bs.os.symm,λ_=>I'.bs.gens,I'.bs.tk⟩ ⟨d0,by exact ab dJ<|Nat.le_refl _,by exact ab ix<|Nat.le_succ _,by refine(?_:h.objs.size<=_);lia,by refine(?_:h.objs.size<=_);lia,by refine(?_:h.objs.size<=_);lia,by exact ab ix<|Ag (show h.objs.size+1 < _ from Nat.lt_of_lt_of_le (Nat.le_of_eq (Eq.symm ‹_›)) (Nat.le_trans szs h3)),by exact ab dJ<|Ag (show h.objs.size < _ from Nat.lt_of_lt_of_le (by lia) (Nat.le_trans szs h3)),h4,h5⟩
  rw[ix]at this
  exact this
end
end
theorem Gn(R:List (List Nat))(r:List Nat)(ae:List (List Nat)):∀(kept:List (List Nat)),r∈ae.foldl (g8 R) kept↔r∈kept∨(r∈ae/\(R.filter (jH r)).isEmpty=true):=by
 induction ae with
 | nil=>intro kept;simp
 | cons row ao ih=>
  intro kept
  refine(ih _).trans ?_
  have hx:r∈g8 R kept row↔r∈kept∨(r=row/\(R.filter (jH r)).isEmpty=true):=by
   unfold g8
   by_cases h:row∈kept
   ·rw[decide_eq_true h]
    exact⟨.inl,λq=>q.elim id λq=>q.1▸h⟩
   ·rw[decide_eq_false h,Bool.not_false,Bool.true_and]
    refine bq (λe=>?_) λe=>?_
    ·refine List.mem_append.trans (or_congr Iff.rfl (List.mem_singleton.trans ?_))
     exact⟨λq=>⟨q,q▸e⟩,λq=>q.1⟩
    ·exact⟨.inl,λq=>q.elim id λq=>absurd (q.1▸q.2) e⟩
  rw[hx,or_assoc,<- or_and_right,List.mem_cons]
theorem DO{R:List (List Nat)}{r:List Nat}:(R.filter (jH r)).isEmpty=true↔∀o∈R,o≠r->o≠r.take o.length:=by
 rw[List.isEmpty_iff,List.filter_eq_nil_iff]
 refine forall_congr' λo=>forall_congr' λ_=>?_
 unfold jH
 simp only[Bool.and_eq_true,bne_iff_ne,beq_iff_eq,not_and]
theorem mI{drawn:List Int}{r:List Nat}:r∈gK drawn↔r∈b5 drawn/\∀o∈b5 drawn,o≠r->o≠r.take o.length:=by
 unfold gK
 rw[Gn,DO]
 simp
theorem pX{drawn:List Int}{r:List Nat}(h:r∈b5 drawn):bN r/\r≠[]:=by
 rcases List.mem_append.mp h with h | h
 ·have:∀r∈lx,(r.length<=4/\∀f∈r,f < 64)/\r≠[]:=by exact of_decide_eq_true rfl
  exact this r h
 ·refine ah (List.mem_map.mp h) λz _ am=>rB am<|bR (yd z) λh1 h2=>⟨⟨h1,λf hf=>?_⟩,λe=>by rw[e]at h2;simp at h2⟩
  refine ah (List.mem_map.mp hf) λk _ am=>?_;subst am
  have b:=Int.fmod_lt_of_pos ((z.fdiv 4).fdiv (64 ^ k)) (b:=64) (Int.natCast_nonneg _)
  omega
structure b7(ae:List (List Nat)):Prop where
 len:ae.length<=7
 ok:∀r∈ae,bN r
 ne:∀r∈ae,r≠[]
 free:∀r∈ae,∀o∈ae,o≠r->o≠r.take o.length
 two:∃r∈ae,∃o∈ae,o≠r
theorem wA{drawn:List Int}(hd:drawn.length<=3):b7 (gK drawn):=by
 refine⟨?_,λr h=>(pX (mI.mp h).1).1,λr h=>(pX (mI.mp h).1).2,λr h o ho au=>(mI.mp h).2 o (mI.mp ho).1 au,?_⟩
 ·have:=x7 (b5 drawn) (b5 drawn) []
  have e:(b5 drawn).length=4+drawn.length:=by unfold b5;refine ab List.length_append ?_;rw[List.length_map];rfl
  unfold gK
  rw[e]at this
  simp only[List.length_nil]at this
  lia
 ·-- ae of one figure are always kept;else 5,63 is
  have one:∀f,[f]∈b5 drawn->[f]∈gK drawn:=λf hf=>by
   refine mI.mpr ⟨hf,λo ho au e=>?_⟩
   have h0:=(pX ho).2
   cases o with
   | nil=>exact h0 rfl
   | cons a t=>
    simp only[List.length_cons,List.take_succ_cons,List.take_nil]at e
    exact au e
  have h563:[5,63]∈b5 drawn:=List.mem_append_left _ (of_decide_eq_true rfl)
  refine aJ ([62]) (one 62 (List.mem_append_left _ (of_decide_eq_true rfl):[62]∈b5 drawn)) ?_
  by_cases h5:[5]∈b5 drawn
  ·exact⟨[5],one 5 h5,by exact of_decide_eq_true rfl⟩
  ·refine⟨[5,63],mI.mpr ⟨h563,λo ho au e=>?_⟩,by exact of_decide_eq_true rfl⟩
   have h0:=(pX ho).2
   match o,h0,e with
   | [],h0,_=>exact h0 rfl
   | [a],_,e=>simp at e;subst e;exact h5 ho
   | [a,b],_,e=>simp at e;exact au (by refine ab e.1 ?_;rw[e.2])
   | a::b::d::t,_,e=>simp at e
noncomputable def uv:List Nat:=[65,66,67,68,69,70,71,72,73,74,75,76,77,78,79,80,81,82,83,84,85,86,87,88,89,90,97,98,99,100,101,102,103,104,105,106,107,108,109,110,111,112,113,114,115,116,117,118,119,120,121,122,48,49,50,51,52,53,54,55,56,57]
noncomputable def t9:List St:=[
 .assign "other" (.item (.list [(.bytes [93,94]),(.bytes [45,92]),(.bytes [91,42]),(.bytes [63,33]),(.bytes [38,126]),(.bytes [43,47])]) (.bin .Mod (.bcall .sum [(.var "drawn")]) (.int 6))),
 .assign "rows" (.call "_law_rows" [(.var "drawn")]),
 .assign "heads" (.comp2 (.cut (.var "row") .absent (.var "k")) "row" .no (.var "rows") "k" .up (.bcall .len [(.var "row")]) []),
 .assign "fronts" (.comp (.item (.var "heads") (.var "k")) "k" .up (.bcall .len [(.var "heads")]) (.cmp .NotIn (.item (.var "heads") (.var "k")) (.cut (.var "heads") .absent (.var "k"))) ["heads"]),
 .assign "wide" (.comp (.cut (.bin .Add (.var "front") (.bin .Mult (.list [(.int 17)]) (.int 4))) .absent (.int 4)) "front" .no (.var "fronts") .absent []),
 .assign "figures" (.bin .Add (.bin .Add (.var "wide") (.comp2 (.bin .Add (.var "row") (.bin .Mult (.list [(.var "last")]) (.bin .Sub (.int 4) (.bcall .len [(.var "row")])))) "row" .no (.var "rows") "last" .no (.list [(.int 0),(.int 63)]) [])) (.comp (.cut (.bin .Add (.cut (.var "row") .absent (.neg (.int 1))) (.list [(.bin .Mod (.bin .Add (.item (.var "row") (.neg (.int 1))) (.int 1)) (.int 64)),(.int 0),(.int 0),(.int 0)])) .absent (.int 4)) "row" .no (.var "rows") .absent [])),
 .assign "alphabet" (.bin .Add (.str [65,66,67,68,69,70,71,72,73,74,75,76,77,78,79,80,81,82,83,84,85,86,87,88,89,90,97,98,99,100,101,102,103,104,105,106,107,108,109,110,111,112,113,114,115,116,117,118,119,120,121,122,48,49,50,51,52,53,54,55,56,57]) (.meth (.var "other") .decode [(.str [97,115,99,105,105])])),
 .assign "names" (.comp (.meth (.str [46]) .join [(.comp (.item (.var "alphabet") (.var "figure")) "figure" .no (.var "row") .absent ["alphabet"])]) "row" .no (.var "figures") .absent ["alphabet"]),
 .assign "strange" (.bin .Add (.comp (.call "_law_doubled" [(.var "row"),(.var "alphabet")]) "row" .no (.var "rows") .absent ["alphabet"]) (.comp (.meth (.str [65]) .join [(.comp (.item (.var "alphabet") (.var "figure")) "figure" .no (.var "row") .absent ["alphabet"])]) "row" .no (.var "wide") .absent ["alphabet"]))]
noncomputable def cx:List (UInt8×UInt8):=[(93,94),(45,92),(91,42),(63,33),(38,126),(43,47)]
noncomputable def jD(drawn:List Int):UInt8×UInt8:=cx.getD (drawn.sum.fmod 6).toNat (43,47)
noncomputable def pairD(p:UInt8×UInt8):D:=.bytes [p.1,p.2].toArray
noncomputable def bW(ae:List (List Nat)):List (List Nat):=ae.flatMap λrow=>(List.range row.length).map λk=>row.take k
noncomputable def lZ(heads:List (List Nat))(k:Nat):Bool:=!decide (heads.getD k []∈heads.take k)
noncomputable def cM(heads:List (List Nat)):List (List Nat):=((List.range heads.length).filter (lZ heads)).map λk=>heads.getD k []
noncomputable def oU(f:List Nat):List Nat:=(f++List.replicate 4 17).take 4
noncomputable def d6(aR:List (List Nat)):List (List Nat):=aR.map oU
noncomputable def l4(row:List Nat):List Nat:=(row.dropLast++[(row.getLastD 0+1) % 64,0,0,0]).take 4
noncomputable def i8(row:List Nat)(last:Nat):List Nat:=row++List.replicate (4 - row.length) last
noncomputable def i4(ae wide:List (List Nat)):List (List Nat):=wide++(ae.flatMap λrow=>[0,63].map λlast=>i8 row last)++ae.map l4
noncomputable def bX(p:UInt8×UInt8):List Nat:=uv++[p.1.toNat,p.2.toNat]
noncomputable def fh(bg:List Nat)(sep:Nat)(row:List Nat):List Nat:=bT [sep] (row.map (eL bg))
noncomputable def pZ(bg:List Nat)(ae wide:List (List Nat)):List (List Nat):=ae.map (λr=>gM r bg)++wide.map (fh bg 65)
theorem xB(p:UInt8×UInt8):(bX p).length=64:=rfl
noncomputable def u6(f:String)(ds:List D):Option D:=(if f="_law_rows" then(dC ds).bind λd=>(iB.m d).bind λl=>(i3 l).bind λis=>if is.length<=3 then some (.list ((gK is).map aj))else none else none).or
 (if f="_law_doubled" then(rc ds).bind λp=>(kg p.1).bind λrow=>(o9.m p.2).bind λx:List Nat=>if row≠[]/\row.length<=4/\(∀g∈row,g < x.length)/\x.length<=1000 then some (sd (gM row x))else none else none)
theorem Gj{α:Type}{a b c d:α}(h:a=c)(k:b=d):[a,b]=[c,d]:=h▸k▸rfl
noncomputable def lm:aI:=⟨u6,gR,λ_ _ _=>none,λ_ _=>none⟩
theorem ES{l:List D}{is:List Int}(h:i3 l=some is)(hz:is.length<=3):u6 "_law_rows" [.list l]=some (.list ((gK is).map aj)):=fL ((if_pos rfl).trans (fB rfl (fB (a:=l) rfl (fB h (if_pos hz)))))
theorem GP{d e:D}{row x:List Nat}(h1:kg d=some row)(h2:o9.m e=some x)(hc:row≠[]/\row.length<=4/\(∀g∈row,g < x.length)/\x.length<=1000):u6 "_law_doubled" [d,e]=some (sd (gM row x)):=fR (if_neg (by decide)) ((if_pos rfl).trans (fB rfl (fB h1 (fB h2 (if_pos hc)))))
theorem Lg(c:Cx)(tz:c.tz):bQ c 2 lm:=by
 refine⟨tz,λf ds r h=>ca h (λh=>iO h λq h=>bE h λd h0 h=>bE h λl h1 h=>bE h λis h2 h=>?_) λh=>iO h λq h=>bE h λp h0 h=>bE h λrow h1 h=>bE h λ(x:List Nat) h2 h=>?_,(λ_ _ _ _ h _ _=>ox h),λ_ _ _ _ h=>nomatch h⟩
 ·refine iE h λhl=>ab q<|ab ((eE h0).trans (congrArg (λd=>[d]) ((iB.ok h1).symm.trans (congrArg D.list (qb h2))))) ?_
  exact⟨180,_,_,zZ,ej (by decide+kernel),IR hl⟩
 ·refine iE h λhc=>ab q<|ab ((tV h0).trans (Gj (tr h1) (o9.ok h2).symm)) ?_
  exact⟨214,_,_,xD,ej (by decide+kernel),Dx hc.1 hc.2.1 hc.2.2.1 hc.2.2.2⟩
theorem yb{ae:List (List Nat)}(R:b7 ae){h:List Nat}(hh:h∈bW ae):bN h/\h.length<=3/\∃r∈ae,∃k,k < r.length/\h=r.take k:=by
 unfold bW at hh
 obtain⟨r,hr,hh⟩:=List.mem_flatMap.mp hh
 obtain⟨k,hk,rfl⟩:=List.mem_map.mp hh
 have hk':=List.mem_range.mp hk
 have hl:=(R.ok r hr).1
 exact⟨⟨by rw[List.length_take];lia,λf hf=>(R.ok r hr).2 f (List.mem_of_mem_take hf)⟩,by rw[List.length_take];lia,r,hr,k,hk',rfl⟩
theorem qc{ae:List (List Nat)}(R:b7 ae):(bW ae).length<=28:=by
 have:∀l:List (List Nat),(∀r∈l,r.length<=4)->(bW l).length<=4 * l.length:=by
  intro l
  induction l with
  | nil=>intro _;simp[bW]
  | cons r l ih=>
   intro h
   have h1:=h r List.mem_cons_self
   have h2:=ih λx hx=>h x (List.mem_cons_of_mem _ hx)
   unfold bW at h2⊢
   rw[List.flatMap_cons,List.length_append,List.length_map,List.length_range,List.length_cons]
   lia
 have:=this ae λr hr=>(R.ok r hr).1
 have:=R.len
 lia
theorem sJ{heads:List (List Nat)}{f:List Nat}(h:f∈cM heads):f∈heads:=by
 unfold cM at h
 obtain⟨k,hk,rfl⟩:=List.mem_map.mp h
 have hk':=List.mem_range.mp (List.mem_filter.mp hk).1
 rw[List.getD_eq_getElem?_getD,List.getElem?_eq_getElem hk']
 exact List.getElem_mem hk'
theorem sL{heads:List (List Nat)}:(cM heads).length<=heads.length:=by
 unfold cM
 rw[List.length_map]
 have:=List.length_filter_le (lZ heads) (List.range heads.length)
 rwa [List.length_range]at this
theorem te{f:List Nat}(h:bN f):bN (oU f)/\(oU f).length=4:=by
 unfold oU
 refine⟨⟨by rw[List.length_take];lia,λg hg=>?_⟩,by rw[List.length_take,List.length_append,List.length_replicate];lia⟩
 rcases List.mem_append.mp (List.mem_of_mem_take hg)with h1 | h1
 ·exact h.2 g h1
 ·rw[(List.mem_replicate.mp h1).2];decide
theorem GS{r:List Nat}{l:Nat}(h:bN r)(hl:l < 64):bN (i8 r l)/\(i8 r l).length=4:=by
 have h1:=h.1
 unfold i8
 refine⟨⟨by rw[List.length_append,List.length_replicate];omega,λg hg=>?_⟩,by rw[List.length_append,List.length_replicate];omega⟩
 rcases List.mem_append.mp hg with h2 | h2
 ·exact h.2 g h2
 ·rw[(List.mem_replicate.mp h2).2];exact hl
theorem Gh{r:List Nat}(h:bN r):bN (l4 r)/\(l4 r).length=4:=by
 unfold l4
 refine⟨⟨by rw[List.length_take];lia,λg hg=>?_⟩,by rw[List.length_take,List.length_append];simp⟩
 rcases List.mem_append.mp (List.mem_of_mem_take hg)with h2 | h2
 ·exact h.2 g ((List.dropLast_sublist _).subset h2)
 ·simp only[List.mem_cons,List.not_mem_nil,or_false]at h2
  rcases h2 with rfl | rfl | rfl | rfl<;>lia
theorem yS{ae:List (List Nat)}(R:b7 ae){g:List Nat}(hg:g∈i4 ae (d6 (cM (bW ae)))):bN g/\g.length=4:=by
 unfold i4 at hg
 rcases List.mem_append.mp hg with hg | hg
 ·rcases List.mem_append.mp hg with hg | hg
  ·obtain⟨f,hf,rfl⟩:=List.mem_map.mp hg
   exact te (yb R (sJ hf)).1
  ·obtain⟨r,hr,hg⟩:=List.mem_flatMap.mp hg
   obtain⟨l,hl,rfl⟩:=List.mem_map.mp hg
   refine GS (R.ok r hr) ?_
   simp only[List.mem_cons,List.not_mem_nil,or_false]at hl
   rcases hl with rfl | rfl<;>decide
 ·obtain⟨r,hr,rfl⟩:=List.mem_map.mp hg
  exact Gh (R.ok r hr)
theorem qk(ae:List (List Nat)):(ae.flatMap λrow=>[0,63].map λlast=>i8 row last).length=2 * ae.length:=by
 induction ae with
 | nil=>rfl
 | cons r l ih=>rw[List.flatMap_cons,List.length_append,ih,List.length_cons];simp;lia
theorem xw{ae:List (List Nat)}(R:b7 ae):(i4 ae (d6 (cM (bW ae)))).length<=49:=by
 have h1:=qc R
 have h2:=sL (heads:=bW ae)
 have h3:=R.len
 unfold i4 d6
 rw[List.length_append,List.length_append,qk,List.length_map,List.length_map]
 lia
section
theorem Ni(ae:List (List Nat)):(ae.map aj).length=ae.length:=List.length_map ..
theorem Nr(ae:List (List Nat)):bD (.d (bk ae))=some (ae.map aj):=rfl
theorem xl{K:aI}{Z:Ctx}{e i:E}{ae:List (List Nat)}{k:Nat}(h:pe K Z e=some (.d (bk ae)))(hi:pe K Z i=some (.d (.int (k:Int))))(hk:k < ae.length)(hz:ae.length<=1000000):pe K Z (.item e i)=some (.d (aj (ae.getD k []))):=by
 refine cS h hi (item_list (ds:=ae.map aj) rfl ?_ (Nat.le_trans (Nat.le_of_eq (List.length_map _)) ‹_›))
 refine ab List.getElem?_map<|ab (List.getElem?_eq_getElem hk)<|ab List.getD_eq_getElem?_getD<|ab (List.getElem?_eq_getElem hk) ?_;rfl
theorem FR(r:List Nat):aj r=.list (r.map λf:Nat=>.int (f:Int)):=rfl
theorem Nc(r:List Nat):bD (.d (aj r))=some (r.map λf:Nat=>D.int (f:Int)):=rfl
theorem t0{K:aI}{Z:Ctx}{e1 e2:E}{a b:List Nat}(h1:pe K Z e1=some (.d (aj a)))(h2:pe K Z e2=some (.d (aj b)))(hz:a.length+b.length<=1000000):pe K Z (.bin .Add e1 e2)=some (.d (aj (a++b))):=by
 have:=aU h1 h2 (iz (x:=a.map λf:Nat=>D.int (f:Int)) (y:=b.map λf:Nat=>D.int (f:Int)) rfl rfl (by rw[List.length_map,List.length_map];exact hz))
 rwa [<- List.map_append]at this
theorem GR{α:Type}(x:α)(m:Nat):(List.replicate m [x]).flatten=List.replicate m x:=by
 induction m with
 | zero=>
  exact rfl
 | succ m ih=>
  refine ab List.replicate_succ<|ab List.replicate_succ<|ab List.flatten_cons<|ab (ih) ?_;rfl
theorem yF{K:aI}{Z:Ctx}{e1 e2:E}{a m:Nat}(h1:pe K Z e1=some (.d (.int (a:Int))))(h2:pe K Z e2=some (.d (.int (m:Int))))(hm:m<=1000):pe K Z (.bin .Mult (.list [e1]) e2)=some (.d (aj (List.replicate m a))):=by
 refine ab (aU (fO (ds:=[.int (a:Int)]) (ay h1 aO) rfl (Nat.succ_pos _)) h2 (y4 (x:=[.int (a:Int)]) rfl (by simp;exact Nat.le_trans ‹_› (Nat.le_add_left _ _)) (Nat.le_trans ‹_› (Nat.le_add_left _ _)))) ?_;rw[GR,FR,List.map_replicate]
section
variable {K:aI} {Z:Ctx}
theorem JC{bg row:List Nat}{sep:Nat}(hme:K.me=gR)(fa:find Z "alphabet"=some (.d (sd bg)))(fr:find Z "row"=some (.d (aj row)))(hr:row.length<=4)(hf:∀f∈row,f < bg.length)(hz:bg.length<=1000):
  pe K Z (.meth (.str [sep]) .join [.comp (.item (.var "alphabet") (.var "figure")) "figure" .no (.var "row") .absent ["alphabet"]])=some (.d (sd (fh bg sep row))):=by
 refine jv bc (ay (gH row (λf:Nat=>.int (f:Int)) (λf=>sd (eL bg f)) (dT (v_var fr)) (cs:=[("alphabet",sd bg)]) (by simp[fo,fa]) (Nat.le_trans ‹_› (Nat.le_add_left _ _)) λf e9=>?_) aO) ?_
 ·skip
  refine cS (v_var rfl) (v_var rfl) (item_str ?_ (Nat.le_trans ‹_› (Nat.le_add_left _ _)))
  refine ab List.getD_eq_getElem?_getD<|ab (List.getElem?_eq_getElem (hf f e9)) ?_
  rfl
 ·refine ab hme<|qu (xs:=row.map (eL bg)) (by refine ab List.map_map ?_;rfl) (Nat.succ_pos _) (λx hx=>?_) (by rw[List.length_map];lia)
  refine ah (List.mem_map.mp hx) λf _ am=>rB am ?_
  simp[eL]
end
structure AO(p:UInt8×UInt8)(ae aR:List (List Nat))(Z:Ctx):Prop where
 fother:find Z "other"=some (.d (pairD p))
 frows:find Z "rows"=some (.d (bk ae))
 ffronts:find Z "fronts"=some (.d (bk aR))
 ffigs:find Z "figures"=some (.d (bk (i4 ae (d6 aR))))
 fnames:find Z "names"=some (.d (hU ((i4 ae (d6 aR)).map (fh (bX p) 46))))
 fstrange:find Z "strange"=some (.d (hU (pZ (bX p) ae (d6 aR))))
theorem uN(s:Int):∃k:Nat,k < 6/\s.fmod 6=(k:Int):=by
 exact aJ ((s.fmod 6).toNat) (by lia) (by lia)
theorem xV{row:List Nat}(p:UInt8×UInt8)(h:bN row):∀f∈row,f < (bX p).length:=λf hf=>by exact h.2 f hf
theorem HS(drawn:List Int):(jD drawn).1.toNat < 128/\(jD drawn).2.toNat < 128:=by
 refine ah (uN drawn.sum) λk hk e=>?_
 unfold jD
 refine ab e ?_;rw[Int.toNat_natCast]
 have:∀k < 6,(cx.getD k (43,47)).1.toNat < 128/\(cx.getD k (43,47)).2.toNat < 128:=by exact of_decide_eq_true rfl
 exact this k hk
theorem fu{Z:Ctx}{x y:String}{m l:LV}(h:find Z y=some l)(au:x≠y:=by decide):find (upd Z x m) y=some l:=by rw[ai,if_neg au];exact h
theorem fe{Z:Ctx}{x:String}{m:LV}:find (upd Z x m) x=some m:=by rw[ai,if_pos rfl]
theorem Hn{K:aI}{Z:Ctx}{ae:List (List Nat)}(R:b7 ae)(h:find Z "rows"=some (.d (bk ae))):
  pe K Z (.comp2 (.cut (.var "row") .absent (.var "k")) "row" .no (.var "rows") "k" .up (.bcall .len [(.var "row")]) [])=some (.d (bk (bW ae))):=by
 have e:(bW ae).map aj=ae.flatMap λrow=>(List.range row.length).map λk=>aj (row.take k):=by
  unfold bW
  refine ab List.map_flatMap ?_
  congr 1
  funext row
  refine ab List.map_map ?_;rfl
 have hl:=qc R
 refine(?_:_=some (LV.d (.list ((bW ae).map aj))))
 refine ab e<|yz ae aj (λrow=>List.range row.length) (λk:Nat=>.int (k:Int)) (λrow k=>aj (row.take k)) (dT (v_var h)) rfl (by refine rB e ?_;rw[List.length_map];lia) (λr hr=>?_) λr hr k hk=>?_
 ·have:=(R.ok r hr).1
  exact oC (j5 (v_var rfl) (Nat.le_trans ‹_› (Nat.le_add_left _ _))) (Nat.le_trans ‹_› (Nat.le_add_left _ _))
 ·have:=(R.ok r hr).1
  exact lG (v_var rfl) rfl (v_var rfl) (Nat.le_trans ‹_› (Nat.le_add_left _ _))
theorem Fi{K:aI}{Z:Ctx}{heads:List (List Nat)}(hl:heads.length<=1000)(h:find Z "heads"=some (.d (bk heads))):
  pe K Z (.comp (.item (.var "heads") (.var "k")) "k" .up (.bcall .len [(.var "heads")]) (.cmp .NotIn (.item (.var "heads") (.var "k")) (.cut (.var "heads") .absent (.var "k"))) ["heads"])=some (.d (bk (cM heads))):=by
 have e:(cM heads).map aj=((List.range heads.length).filter (lZ heads)).map λk=>aj (heads.getD k []):=by
  unfold cM;refine ab List.map_map ?_;rfl
 refine(?_:_=some (LV.d (.list ((cM heads).map aj))))
 refine ab e ?_
 have aV:pe K Z (.bcall .len [.var "heads"])=some (.d (.int (heads.length:Int))):=by
  have:=ek (f:=.len) (ay (v_var (K:=K) h) aO) (on (ds:=heads.map aj) rfl (by rw[List.length_map];lia))
  rwa [List.length_map]at this
 refine j6 (List.range heads.length) (λk:Nat=>.int (k:Int)) (lZ heads) (λk=>aj (heads.getD k [])) (oC aV (Nat.le_trans ‹_› (Nat.le_add_left _ _))) (cs:=[("heads",bk heads)]) (by simp[fo,h]) (by exact ab List.length_range<|Nat.le_trans ‹_› (Nat.le_add_left _ _)) (λk hk=>?_) λk hk _=>?_
 ·have hk':=List.mem_range.mp hk
  refine aS (xl (v_var rfl) (v_var rfl) hk' (Nat.le_trans ‹_› (Nat.le_add_left _ _))) (v_cut (v_var rfl) oI (fg rfl (v_var rfl)) (tR (ds:=heads.map aj) rfl (by rw[List.length_map];lia))) ?_
  rw[qm,<- List.map_take]
  exact vF _ _ rfl
 ·exact xl (v_var rfl) (v_var rfl) (List.mem_range.mp hk) (Nat.le_trans ‹_› (Nat.le_add_left _ _))
theorem Jz{K:aI}{Z:Ctx}{aR:List (List Nat)}(hl:aR.length<=1000)(hf:∀f∈aR,f.length<=4)(h:find Z "fronts"=some (.d (bk aR))):
  pe K Z (.comp (.cut (.bin .Add (.var "front") (.bin .Mult (.list [(.int 17)]) (.int 4))) .absent (.int 4)) "front" .no (.var "fronts") .absent [])=some (.d (bk (d6 aR))):=by
 show _=some (LV.d (.list ((d6 aR).map aj)))
 unfold d6
 refine ab List.map_map<|gH aR aj (λf=>aj (oU f)) (dT (v_var h)) rfl (Nat.le_trans ‹_› (Nat.le_add_left _ _)) λf e9=>?_
 have:=hf f e9
 exact lG (r:=f++List.replicate 4 17) (k:=4) (t0 (v_var rfl) (yF (a:=17) (m:=4) aK aK (Nat.le_add_left _ _)) (by rw[List.length_replicate];lia)) rfl aK (by refine ab List.length_append ?_;rw[List.length_replicate];lia)
theorem Ho{K:aI}{Z:Ctx}{ae:List (List Nat)}(R:b7 ae)(h:find Z "rows"=some (.d (bk ae))):
  pe K Z (.comp2 (.bin .Add (.var "row") (.bin .Mult (.list [(.var "last")]) (.bin .Sub (.int 4) (.bcall .len [(.var "row")])))) "row" .no (.var "rows") "last" .no (.list [(.int 0),(.int 63)]) [])=some (.d (bk (ae.flatMap λrow=>[0,63].map λlast=>i8 row last))):=by
 have e:(ae.flatMap λrow=>[0,63].map λlast=>i8 row last).map aj=ae.flatMap λrow=>[0,63].map λlast=>aj (i8 row last):=by
  refine ab List.map_flatMap ?_;rfl
 have hl:=R.len
 have hz:=qk ae
 refine(?_:_=some (LV.d (.list (List.map aj _))))
 refine ab e<|yz ae aj (λ_=>[0,63]) (λl:Nat=>.int (l:Int)) (λrow l=>aj (i8 row l)) (dT (v_var h)) rfl (by refine rB e ?_;rw[List.length_map];lia) (λr hr=>?_) λr hr l fC=>?_
 ·exact dT (fO (ds:=[.int 0,.int 63]) (ay aK (ay aK aO)) rfl (by trivial))
 ·have h4:=(R.ok r hr).1
  refine t0 (v_var rfl) (yF (m:=4 - r.length) (v_var rfl) ?_ (by lia)) (by refine ab List.length_replicate ?_;lia)
  have:=aU (K:=K) (Z:=(("last",LV.d (.int (l:Int)))::("row",.d (aj r))::b6 [])) (aK (i:=4)) (j5 (e:=.var "row") (r:=r) (v_var rfl) (Nat.le_trans ‹_› (Nat.le_add_left _ _))) (qy _ _)
  congr 3;lia
theorem Hl{K:aI}{Z:Ctx}{ae:List (List Nat)}(R:b7 ae)(h:find Z "rows"=some (.d (bk ae))):
  pe K Z (.comp (.cut (.bin .Add (.cut (.var "row") .absent (.neg (.int 1))) (.list [(.bin .Mod (.bin .Add (.item (.var "row") (.neg (.int 1))) (.int 1)) (.int 64)),(.int 0),(.int 0),(.int 0)])) .absent (.int 4)) "row" .no (.var "rows") .absent [])=some (.d (bk (ae.map l4))):=by
 show _=some (LV.d (.list (List.map aj _)))
 refine ab List.map_map ?_
 have hl:=R.len
 refine gH ae aj (λr=>aj (l4 r)) (dT (v_var h)) rfl (Nat.le_trans ‹_› (Nat.le_add_left _ _)) λr hr=>?_
 have h4:=(R.ok r hr).1
 have hlast:r.getLast?=some (r.getLastD 0):=by
  cases hq:r.getLast? with
  | none=>exact absurd (List.getLast?_eq_none_iff.mp hq) (R.ne r hr)
  | some z=>refine ab List.getLastD_eq_getLast?<|ab hq ?_;rfl
 refine lG (r:=r.dropLast++[(r.getLastD 0+1) % 64,0,0,0]) (k:=4) (t0 ?_ ?_ (by rw[List.length_dropLast];simp;exact Nat.le_trans ‹_› (Nat.le_add_left _ _))) rfl aK (by refine ab List.length_append ?_;rw[List.length_dropLast];simp;exact Nat.le_trans ‹_› (Nat.le_add_left _ _))
 ·skip
  refine ab (v_cut (K:=K) (Z:=(("row",LV.d (aj r))::b6 [])) (a:=.var "row") (v_var rfl) oI (fg (e:=.neg (.int 1)) rfl uj) (tR (a:=.d (aj r)) (ds:=r.map λf:Nat=>D.int (f:Int)) rfl (by rw[List.length_map];lia))) ?_
  have hm:cut (r.map λf:Nat=>D.int (f:Int)) none (some (-1))=(r.dropLast).map λf:Nat=>D.int (f:Int):=by
   refine(we (r.map λf:Nat=>D.int (f:Int)) 1 (Nat.le_refl _)).trans ?_
   rw[List.length_map,List.dropLast_eq_take,List.map_take]
  exact ab hm rfl
 ·refine fO (ds:=[.int (((r.getLastD 0+1) % 64:Nat):Int),.int 0,.int 0,.int 0]) (ay (aU (aU (x:=.d (.int ((r.getLastD 0:Nat):Int))) (cS (v_var rfl) uj (item_last (ds:=r.map λf:Nat=>D.int (f:Int)) rfl ?_ (by rw[List.length_map];lia))) aK (y6 _ _)) aK ?_) (ay aK (ay aK (ay aK aO)))) rfl (Nat.le_add_left _ _)
  ·refine ab List.getLast?_map<|ab hlast ?_;rfl
  ·skip
   rfl
end
theorem Hj{Z:Ctx}{drawn:List Int}(fd:find Z "drawn"=some (.d (.list (drawn.map .int)))):
  pe lm Z (.item (.list [(.bytes [93,94]),(.bytes [45,92]),(.bytes [91,42]),(.bytes [63,33]),(.bytes [38,126]),(.bytes [43,47])]) (.bin .Mod (.bcall .sum [(.var "drawn")]) (.int 6)))=some (.d (pairD (jD drawn))):=by
 refine ah (uN drawn.sum) λk hk e=>cS (fO (ds:=cx.map pairD) (by rfl) rfl (by simp[cx])) (aU (x:=.d (.int drawn.sum)) (ek (ay (v_var fd) aO) ?_) aK (qz (of_decide_eq_true rfl))) ?_
 ·refine(?_:Option.map _ (iC _)=_)
  unfold iC
  rw[oy,Option.bind_some,wD];rfl
 ·refine ab e<|item_list (ds:=cx.map pairD) rfl ?_ (by simp[cx])
  unfold jD
  refine ab e ?_;rw[Int.toNat_natCast,List.getElem?_map,List.getD_eq_getElem?_getD,List.getElem?_eq_getElem (show k < cx.length from hk)]
  rfl
theorem Du{drawn:List Int}(hd:drawn.length<=3):lm.fn "_law_rows" [.list (drawn.map .int)]=some (bk (gK drawn)):=ES (wD drawn) hd
theorem Hp{Z:Ctx}{p:UInt8×UInt8}(hp:p.1.toNat < 128/\p.2.toNat < 128)(h:find Z "other"=some (.d (pairD p))):
  pe lm Z (.bin .Add (.str uv) (.meth (.var "other") .decode [(.str [97,115,99,105,105])]))=some (.d (sd (bX p))):=by
 refine aU bc (jv (v_var h) (ay bc aO) (r:=sd [p.1.toNat,p.2.toNat]) ?_) (mU (by simp[uv]))
 have:ft .decode (.d (pairD p)) [.d (sd [97,115,99,105,105])]=some (sd [p.1.toNat,p.2.toNat]):=by
  refine ab vU ?_;unfold pairD
  simp only[m8,da,Option.bind_some]
  refine ab (if_pos ⟨trivial,by exact of_decide_eq_true rfl,by simp[hp.1,hp.2],by exact Nat.le_add_left _ _⟩) ?_
  rfl
 have h2:gR .decode (.d (pairD p)) [.d (sd [97,115,99,105,105])]=some (sd [p.1.toNat,p.2.toNat]):=by
  exact mT this
 exact h2
theorem yy{Z:Ctx}{p:UInt8×UInt8}{gs:List (List Nat)}{x:String}{sep:Nat}(hz:gs.length<=1000)(hg:∀g∈gs,bN g)(fa:find Z "alphabet"=some (.d (sd (bX p))))(fx:find Z x=some (.d (bk gs))):
  pe lm Z (.comp (.meth (.str [sep]) .join [(.comp (.item (.var "alphabet") (.var "figure")) "figure" .no (.var "row") .absent ["alphabet"])]) "row" .no (.var x) .absent ["alphabet"])=some (.d (hU (gs.map (fh (bX p) sep)))):=by
 show _=some (LV.d (.list (List.map sd _)))
 exact ab List.map_map<|gH gs aj (λg=>sd (fh (bX p) sep g)) (dT (v_var fx)) (cs:=[("alphabet",sd (bX p))]) (by simp[fo,fa]) (Nat.le_trans ‹_› (Nat.le_add_left _ _)) λg hg'=>JC rfl rfl rfl (hg g hg').1 (xV p (hg g hg')) (by rw[xB];exact Nat.le_add_left _ _)
theorem DS{Z:Ctx}{p:UInt8×UInt8}{ae:List (List Nat)}(R:b7 ae)(fa:find Z "alphabet"=some (.d (sd (bX p))))(fx:find Z "rows"=some (.d (bk ae))):
  pe lm Z (.comp (.call "_law_doubled" [(.var "row"),(.var "alphabet")]) "row" .no (.var "rows") .absent ["alphabet"])=some (.d (hU (ae.map λr=>gM r (bX p)))):=by
 show _=some (LV.d (.list (List.map sd _)))
 refine ab List.map_map ?_
 have hl:=R.len
 exact gH ae aj (λr=>sd (gM r (bX p))) (dT (v_var fx)) (cs:=[("alphabet",sd (bX p))]) (by simp[fo,fa]) (Nat.le_trans ‹_› (Nat.le_add_left _ _)) λr hr=>fc (ay (v_var rfl) (ay (v_var rfl) aO)) rfl<|GP (sB r) (congrArg some (ja (bX p))) ⟨R.ne r hr,(R.ok r hr).1,xV p (R.ok r hr),by rw[xB];exact Nat.le_add_left _ _⟩
theorem K6(drawn:List Int)(hd:drawn.length<=3){Z:Ctx}(fd:find Z "drawn"=some (.d (.list (drawn.map .int)))):∃af,ps lm 0 Z t9=some (.next af)/\AO (jD drawn) (gK drawn) (cM (bW (gK drawn))) af:=by
 have R:=wA hd
 have hp:=HS drawn
 have hr:=Du hd
 have ho:=Hj fd
 generalize gK drawn=ae at R hr
 generalize jD drawn=p at hp ho
 have hhl:=qc R
 have hfl:=sL (heads:=bW ae)
 have hfo:∀f∈cM (bW ae),bN f:=λf hf=>(yb R (sJ hf)).1
 have hgl:=xw R
 have hwo:∀g∈d6 (cM (bW ae)),bN g:=λg hg=>by
  exact ah (List.mem_map.mp hg) λf hf am=>rB am<|(te (hfo f hf)).1
 have hwl:(d6 (cM (bW ae))).length<=28:=by unfold d6;rw[List.length_map];lia
 refine⟨_,ba ho (ba (fc (ay (v_var (fu fd)) aO) rfl hr) (ba (Hn R fe) (ba (Fi (Nat.le_trans ‹_› (Nat.le_add_left _ _)) fe) (ba (Jz (by lia) (λf hf=>(hfo f hf).1) fe)
  (ba (aU (aU (v_var fe) (Ho R (fu (fu (fu fe)))) (iz (x:=(d6 (cM (bW ae))).map aj) (y:=(ae.flatMap λrow=>[0,63].map λlast=>i8 row last).map aj) rfl rfl (by rw[List.length_map,List.length_map,qk];have:=R.len;lia))) (Hl R (fu (fu (fu fe))))
   (iz (x:=(d6 (cM (bW ae))).map aj++(ae.flatMap λrow=>[0,63].map λlast=>i8 row last).map aj) (y:=(ae.map l4).map aj) rfl rfl (by refine ab List.length_append ?_;rw[List.length_map,List.length_map,List.length_map,List.length_map,qk];have:=R.len;lia)))
  (ba (Hp hp (fu (fu (fu (fu (fu fe))))))
  (ba (yy (gs:=i4 ae (d6 (cM (bW ae)))) (Nat.le_trans ‹_› (Nat.le_add_left _ _)) (λg (hg:g∈i4 ae (d6 (cM (bW ae))))=>(yS R hg).1) fe (fu ?_))
  (ba (aU (DS R (fu fe) (fu (fu (fu (fu (fu (fu fe))))))) (yy (Nat.le_trans ‹_› (Nat.le_add_left _ _)) hwo (fu fe) (fu (fu (fu fe)))) (iz (x:=(ae.map λr=>gM r (bX p)).map sd) (y:=((d6 (cM (bW ae))).map (fh (bX p) 65)).map sd) rfl rfl (by rw[List.length_map,List.length_map,List.length_map,List.length_map];have:=R.len;lia))) bo)))))))),?_⟩
 ·rw[fe]
  congr 3
  unfold i4
  rw[List.map_append,List.map_append]
 ·refine⟨fu (fu (fu (fu (fu (fu (fu (fu fe))))))),fu (fu (fu (fu (fu (fu (fu fe)))))),fu (fu (fu (fu (fu fe)))),fu (fu (fu ?_)),fu fe,?_⟩
  ·rw[fe]
   congr 3
   unfold i4
   rw[List.map_append,List.map_append]
  ·refine ab fe ?_
   congr 3
   unfold pZ
   exact ab List.map_append rfl
section
noncomputable def bH(p:UInt8×UInt8)(f:Nat):Nat:=dn p.1 p.2 f
theorem HU(drawn:List Int):jD drawn∈cx:=by
 refine ah (uN drawn.sum) λk hk e=>?_
 unfold jD
 refine ab e ?_;rw[Int.toNat_natCast,List.getD_eq_getElem?_getD,List.getElem?_eq_getElem (show k < cx.length from hk)]
 exact List.getElem_mem _
noncomputable def Ea(p:UInt8×UInt8):Bool:=(List.range 64).all λf=>(List.range 64).all (λg=>f==g||bH p f !=bH p g)&&bH p f !=46&&bH p f !=60&&decide (bH p f < 128)&&((bX p).getD f 0==bH p f)
theorem Bo:cx.all Ea=true:=by decide+kernel
theorem jU{p:UInt8×UInt8}(hp:p∈cx){f:Nat}(hf:f < 64):(∀g,g < 64->bH p f=bH p g->f=g)/\bH p f≠46/\bH p f≠60/\bH p f < 128/\(bX p).getD f 0=bH p f:=by
 have h:=List.all_eq_true.mp Bo p hp
 have h:=List.all_eq_true.mp h f (List.mem_range.mpr hf)
 simp only[Bool.and_eq_true,bne_iff_ne,decide_eq_true_eq,beq_iff_eq]at h
 have aw:=h
 have h2:=aw.1.1.1.2
 have h4:=aw.1.2
 refine AW (λg hg e=>?_) h2 aw.1.1.2 h4 aw.2
 have:=List.all_eq_true.mp aw.1.1.1.1 g (List.mem_range.mpr hg)
 simp only[Bool.or_eq_true,beq_iff_eq,bne_iff_ne]at this
 rcases this with q | q
 ·exact q
 ·exact absurd e q
theorem zn{p:UInt8×UInt8}(hp:p∈cx){f:Nat}(hf:f < 64):eL (bX p) f=[bH p f]:=by
 unfold eL
 exact ab ((jU hp hf).2.2.2.2) rfl
theorem EB(ax:List Nat)(x:Nat)(ae:List (List Nat)):∀(acc:List Nat),x∈ae.foldl (gj ax) acc↔x∈acc∨∃r∈ae,r.take ax.length=ax/\r.getD ax.length 0=x:=by
 induction ae with
 | nil=>intro acc;simp
 | cons r ao ih=>
  intro acc
  refine(ih _).trans ?_
  have hx:x∈gj ax acc r↔x∈acc∨(r.take ax.length=ax/\r.getD ax.length 0=x):=by
   unfold gj
   by_cases h:r.getD ax.length 0∈acc
   ·rw[decide_eq_true h,Bool.not_true,Bool.and_false]
    exact⟨.inl,λq=>q.elim id λq=>q.2▸h⟩
   ·rw[decide_eq_false h,Bool.not_false,Bool.and_true]
    refine bq (λe=>?_) λe=>?_
    ·refine List.mem_append.trans (or_congr Iff.rfl (List.mem_singleton.trans ?_))
     exact⟨λq=>⟨eq_of_beq e,q.symm⟩,λq=>q.2.symm⟩
    ·exact⟨.inl,λq=>q.elim id λq=>absurd (beq_iff_eq.mpr q.1) e⟩
  rw[hx,or_assoc];simp only[List.mem_cons,exists_eq_or_imp]
theorem Cu(ax:List Nat)(ae:List (List Nat)):∀(acc:List Nat),acc.Nodup->(ae.foldl (gj ax) acc).Nodup:=by
 induction ae with
 | nil=>
  intro acc h
  exact h
 | cons r ao ih=>
  intro acc h
  refine ih _ ?_
  unfold gj
  refine bq (λ_=>?_) λ_=>?_
  ·rename_i hc
   simp only[Bool.and_eq_true,Bool.not_eq_true',decide_eq_false_iff_not]at hc
   rw[List.nodup_append]
   refine dQ h (by simp) (λa ha b hb e=>?_)
   rw[List.mem_singleton]at hb
   subst e;subst hb
   exact hc.2 ha
  ·exact h
theorem n8{ax:List Nat}{ae:List (List Nat)}{x:Nat}:x∈cZ ax ae↔∃r∈ae,r.take ax.length=ax/\r.getD ax.length 0=x:=by
 unfold cZ
 rw[EB]
 simp
noncomputable def eR(ae:List (List Nat))(f:List Nat):Prop:=∃r∈ae,∃k,k < r.length/\f=r.take k
theorem jW{ae:List (List Nat)}(R:b7 ae){f:List Nat}(hf:eR ae f):bN f/\f.length<=3:=by
 refine ah hf λr hr ar=>?_;obtain⟨k,hk,rfl⟩:=ar
 have:=(R.ok r hr).1
 exact⟨⟨by refine ab List.length_take ?_;lia,λg hg=>(R.ok r hr).2 g (List.mem_of_mem_take hg)⟩,by refine ab List.length_take ?_;lia⟩
theorem wI{ae:List (List Nat)}(R:b7 ae){f:List Nat}(hf:eR ae f):∀r∈ae,r.take f.length=f->f.length < r.length:=by
 refine ah hf λr0 hr0 ar=>?_;obtain⟨k,hk,rfl⟩:=ar
 intro r hr e
 rw[List.length_take,Nat.min_eq_left (by lia)]at e⊢
 by_cases q:k < r.length
 ·exact q
 ·replace e:=Eq.trans (Eq.symm (List.take_of_length_le (by lia))) e
  have au:r≠r0:=λe2=>by subst e2;exact q hk
  refine absurd ?_ (R.free r0 hr0 r hr au)
  have hl:r.length=k:=by refine ab e<|ab List.length_take ?_;lia
  exact ab hl e
theorem sH{ae:List (List Nat)}(R:b7 ae){f:List Nat}(hf:eR ae f){x:Nat}(hx:x∈cZ f ae):x < 64:=by
 exact gV (n8.mp hx) λr hr e dH=>rB dH<|jw (R.ok r hr) _
theorem Ge{ae:List (List Nat)}{f:List Nat}(hf:eR ae f):cZ f ae≠[]:=by
 refine ah hf λr hr ar=>?_;obtain⟨k,hk,rfl⟩:=ar
 intro e
 have:r.getD (r.take k).length 0∈cZ (r.take k) ae:=n8.mpr ⟨r,hr,by rw[List.length_take,Nat.min_eq_left (by lia)],rfl⟩
 replace this:=e▸this;cases this
theorem y7(s:List Nat)(x:Nat):x∈dc s↔x∈s:=by
 unfold dc
 simp only[List.mem_append,List.mem_filter,decide_eq_true_eq,Bool.not_eq_true',decide_eq_false_iff_not,List.mem_cons,List.not_mem_nil,or_false,not_or]
 constructor
 ·rintro((⟨h,_⟩ | ⟨h,_⟩) | ⟨h,_⟩)<;>exact h
 ·intro h
  by_cases h1:x=93
  ·exact .inl (.inl ⟨h,h1⟩)
  ·by_cases h2:x=45
   ·exact .inr ⟨h,h2⟩
   ·exact .inl (.inr ⟨h,h1,h2⟩)
theorem vJ{s:List Nat}(hn:s.Nodup)(k:Nat):s.filter (λx=>decide (x=k))=[]∨s.filter (λx=>decide (x=k))=[k]:=by
 induction s with
 | nil=>exact .inl rfl
 | cons a r ih=>
  obtain⟨h1,h2⟩:=List.nodup_cons.mp hn
  refine ab List.filter_cons ?_
  by_cases e:a=k
  ·refine rB e<|ab (if_pos (by simp)) ?_
   have:r.filter (λx=>decide (x=a))=[]:=List.filter_eq_nil_iff.mpr λx hx=>by
    simp only[decide_eq_true_eq];rintro rfl;exact h1 hx
   exact ab this<| .inr rfl
  ·exact ab (if_neg (by simpa using e))<|ih h2
theorem K9{s:List Nat}(hn:s.Nodup)(au:s≠[])(hl:s.length<=15):Tk.Ok (.neg (dc s)):=by
 have hne':dc s≠[]:=λe=>by
  refine cY (List.exists_cons_of_ne_nil au) λa r am=>?_;subst am
  have:=(y7 (a::r) a).mpr List.mem_cons_self
  replace this:=e▸this;cases this
 have aV:(dc s).length<=45:=by
  unfold dc
  have h1:=List.length_filter_le (λx=>decide (x=93)) s
  have h2:=List.length_filter_le (λx=>!decide (x∈[93,45])) s
  have h3:=List.length_filter_le (λx=>decide (x=45)) s
  simp only[List.length_append]
  lia
 have mid:∀x∈s.filter (λx=>!decide (x∈[93,45])),x≠93/\x≠45:=λx hx=>by
  have:=(List.mem_filter.mp hx).2
  simp only[Bool.not_eq_true',decide_eq_false_iff_not,List.mem_cons,List.not_mem_nil,or_false,not_or]at this
  exact this
 have no45:∀x∈s.filter (λx=>decide (x=45)),x≠93:=λx hx=>by
  have:=(List.mem_filter.mp hx).2
  simp only[decide_eq_true_eq]at this
  lia
 refine lj hne' aV ?_ ?_
 ·unfold dc
  rcases vJ hn 93 with e | e
  ·rw[e,List.nil_append]
   intro h
   rcases List.mem_append.mp (List.mem_of_mem_tail h)with h | h
   ·exact(mid _ h).1 rfl
   ·exact no45 _ h rfl
  ·rw[e]
   intro h
   rcases List.mem_append.mp (show 93∈s.filter (λx=>!decide (x∈[93,45]))++s.filter (λx=>decide (x=45))from h)with h | h
   ·exact(mid _ h).1 rfl
   ·exact no45 _ h rfl
 ·unfold dc
  have h93:∀x∈s.filter (λx=>decide (x=93)),x≠45:=λx hx=>by
   have:=(List.mem_filter.mp hx).2
   simp only[decide_eq_true_eq]at this
   lia
  rcases vJ hn 45 with e | e
  ·refine ab e ?_;rw[List.append_nil]
   intro h
   rcases List.mem_append.mp ((List.dropLast_sublist _).subset h)with h | h
   ·exact h93 _ h rfl
   ·exact(mid _ h).2 rfl
  ·refine ab e<|ab List.dropLast_concat ?_
   intro h
   rcases List.mem_append.mp h with h | h
   ·exact h93 _ h rfl
   ·exact(mid _ h).2 rfl
theorem HD{s:Nat}(h:s < 128):(mi s).Ok:=by
 unfold mi
 refine bq (λ_=>?_) λ_=>?_
 ·rename_i hm
  simp only[List.mem_cons,List.not_mem_nil,or_false]at hm
  exact hm
 ·rename_i hm
  simp only[List.mem_cons,List.not_mem_nil,or_false,not_or]at hm
  exact lj h hm.2.1 hm.2.2 hm.1
theorem xR{x:Tk}:∀{l:List Tk},x∈fY l->x∈l∨x=.lit 46
 | [],h=>by cases h
 | [y],h=>.inl h
 | y::z::r,h=>by
  rcases List.mem_cons.mp h with h | h
  ·exact .inl (h▸List.mem_cons_self)
  ·rcases List.mem_cons.mp h with h | h
   ·exact .inr h
   ·rcases xR h with h | h
    ·exact .inl (List.mem_cons_of_mem _ h)
    ·exact .inr h
theorem xS:∀l:List Tk,(fY l).length=2 * l.length - 1
 | []=>rfl
 | [y]=>rfl
 | y::z::r=>by
  rw[fY,List.length_cons,List.length_cons,xS (z::r)]
  simp only[List.length_cons];lia
theorem nodup_map_on{g:Nat->Nat}{l:List Nat}:l.Nodup->(∀a∈l,∀b∈l,g a=g b->a=b)->(l.map g).Nodup:=by
 induction l with
 | nil=>
  intro _ _
  exact .nil
 | cons a r ih=>
  intro hn hi
  obtain⟨h1,h2⟩:=List.nodup_cons.mp hn
  refine ab List.map_cons ?_;rw[List.nodup_cons]
  refine⟨λh=>?_,ih h2 λx hx y hy=>hi x (List.mem_cons_of_mem _ hx) y (List.mem_cons_of_mem _ hy)⟩
  exact ah (List.mem_map.mp h) λb hb e=>h1 ((hi a List.mem_cons_self b (List.mem_cons_of_mem _ hb) e.symm)▸hb)
section
variable {p:UInt8×UInt8} {ae:List (List Nat)} {f:List Nat}
theorem II(hp:p∈cx)(R:b7 ae)(hf:eR ae f):∀t∈fY (jr p.1 p.2 f ae),t.Ok:=by
 intro t ht
 rcases xR ht with ht | rfl
 ·skip
  rcases List.mem_append.mp ht with ht | ht
  ·rcases List.mem_append.mp ht with ht | ht
   ·exact ah (List.mem_map.mp ht) λg hg am=>rB am<|HD (jU hp (((jW R hf).1).2 g hg)).2.2.2.1
   ·rw[List.mem_singleton]at ht;refine ab ht<|K9 ?_ ?_ ?_
    ·exact nodup_map_on (Cu f ae [] .nil) λa ha b hb e=>(jU hp (sH R hf ha)).1 b (sH R hf hb) e
    ·intro e
     exact Ge hf (List.map_eq_nil_iff.mp e)
    ·rw[List.length_map]
     have:=sW f ae []
     unfold cZ
     have:=R.len
     simp only[List.length_nil]at *
     lia
  ·exact ab (List.eq_of_mem_replicate ht) trivial
 ·exact lj (by decide) (by decide) (by decide) (by decide)
end
end
section
theorem ua{α:Type}{g:α->List Nat}{B:Nat}(l:List α):(∀t∈l,(g t).length<=B)->(l.flatMap g).length<=B * l.length:=by
 induction l with
 | nil=>
  intro _
  exact Nat.le_refl _
 | cons t r ih=>
  intro h
  have h1:=h t List.mem_cons_self
  have h2:=ih λx hx=>h x (List.mem_cons_of_mem _ hx)
  rw[List.flatMap_cons,List.length_append,List.length_cons,Nat.mul_add];lia
theorem Ik(c:Nat):(bJ c).length<=2:=by unfold bJ;split<;>simp
theorem JW{t:Tk}(h:t.Ok):t.out.length<=93:=by
 cases t with
 | lit k=>show(eS k).length<=93;unfold eS;split<;>simp
 | cls k=>show(if k=91 then[91,92,91,93]else[91,k,93]).length<=93;split<;>simp
 | neg b=>
  show([91,94]++i0 b++[93]).length<=93
  rw[xg]
  have:=ua (g:=bJ) (B:=2) b λc _=>Ik c
  have:=h.2.1
  simp only[List.length_append,List.length_cons,List.length_nil];lia
 | any=>simp[Tk.out]
theorem JJ{t:Tk}(h:t.Ok):t.src.length<=48:=by
 cases t with
 | neg b=>
  have:=h.2.1
  simp only[Tk.src,List.length_cons,List.length_append,List.length_nil];lia
 | _=>simp[Tk.src]
noncomputable def oG(p:UInt8×UInt8)(ae:List (List Nat))(f:List Nat):List Tk:=fY (jr p.1 p.2 f ae)
noncomputable def readOf(p:UInt8×UInt8)(ae:List (List Nat))(f:List Nat):List bZ:=(oG p ae f).map Tk.item
theorem th{p:UInt8×UInt8}{ae:List (List Nat)}{f:List Nat}(h:f.length<=3):(oG p ae f).length=7:=by
 unfold oG
 rw[xS]
 unfold jr
 simp only[List.length_append,List.length_map,List.length_replicate,List.length_cons,List.length_nil]
 lia
open Classical in
noncomputable def vt(f1:String)(d1:List D)(r1:D)(f2:String)(d2:List D)(r2:D)(f3:String)(d3:List D)(r3:D):String->List D->Option D:=λf ds=>(if f=f1/\ds=d1 then some r1 else none).or ((if f=f2/\ds=d2 then some r2 else none).or (if f=f3/\ds=d3 then some r3 else none))
section
variable (p:UInt8×UInt8) (ae:List (List Nat)) (f:List Nat)
noncomputable def nG:D:=sd (bT [46] (lw p.1 p.2 f ae))
noncomputable def rI:D:=sd (gI (oG p ae f))
noncomputable def nQ:String->List D->Option D:=vt "_law_pattern" [aj f,bk ae,pairD p] (nG p ae f) "translate" [nG p ae f] (rI p ae f) "_law_items" [rI p ae f] (cO (readOf p ae f))
noncomputable def KR:aI:=⟨nQ p ae f,λ_ _ _=>none,λ_ _ _=>none,λ_ _=>none⟩
theorem Ma:nQ p ae f "_law_pattern" [aj f,bk ae,pairD p]=some (nG p ae f):=fL (if_pos ⟨rfl,rfl⟩)
theorem L':nQ p ae f "translate" [nG p ae f]=some (rI p ae f):=by
 unfold nQ vt
 rw[if_neg (λq=>absurd q.1 (of_decide_eq_true rfl)),if_pos ⟨rfl,rfl⟩];rfl
theorem L9:nQ p ae f "_law_items" [rI p ae f]=some (cO (readOf p ae f)):=by
 unfold nQ vt
 rw[if_neg (λq=>absurd q.1 (of_decide_eq_true rfl)),if_neg (λq=>absurd q.1 (of_decide_eq_true rfl)),if_pos ⟨rfl,rfl⟩];rfl
end
section
variable {p:UInt8×UInt8} {ae:List (List Nat)} {f:List Nat}
theorem Mp(hp:p∈cx)(R:b7 ae)(hf:eR ae f)(c:Cx)(tz:c.tz):bQ c 5 (KR p ae f):=by
 refine⟨tz,λg ds r h=>?_,(λ_ _ _ _ h=>nomatch h),λ_ _ _ _ h=>nomatch h⟩
 have aw:=jW R hf
 have hfo:=aw.1
 have hf3:=aw.2
 have eX:=II hp R hf
 have aV:(fY (jr p.1 p.2 f ae)).length=7:=th hf3
 have hsrc:=ua (g:=Tk.src) (B:=48) _ λt ht=>JJ (eX t ht)
 have hout:=ua (g:=Tk.out) (B:=93) _ λt ht=>JW (eX t ht)
 have dt:p.1.toNat < 128/\p.2.toNat < 128:=by
  have:∀p∈cx,p.1.toNat < 128/\p.2.toNat < 128:=by exact of_decide_eq_true rfl
  exact this p hp
 refine ca h (λh=>?_) λh=>ca h (λh=>?_) λh=>?_
 ·refine @iO _ _ _ _ _ _ h λq h=>aC h<|ab q.1<|ab q.2 ?_
  exact⟨190,_,_,xC,ej (by decide+kernel),Dv dt.1 dt.2 hfo hf3 R.ok (by have:=R.len;exact Nat.le_trans ‹_› (Nat.le_add_left _ _)) (wI R hf)⟩
 ·refine @iO _ _ _ _ _ _ h λq h=>aC h<|ab q.1<|ab q.2<|⟨50,_,_,wi,ej (by decide+kernel),Fn.le (n:=3) ?_ (Nat.le_add_left _ _)⟩
  have e:nG p ae f=sd ((fY (jr p.1 p.2 f ae)).flatMap Tk.src):=by unfold nG;rw[FZ]
  rw[e]
  exact B' _ eX (by lia) (by lia) (by rw[<- List.flatMap_def];lia)
 ·refine @iO _ _ _ _ _ _ h λq h=>aC h<|ab q.1<|ab q.2 ?_
  exact⟨204,_,_,zf,ej (by decide+kernel),(GO _ eX (by lia) (by lia)).le (Nat.le_add_left _ _)⟩
noncomputable def uD:E:=.call "_law_items" [(.call "translate" [(.call "_law_pattern" [(.var "front"),(.var "rows"),(.var "other")])])]
theorem JB{Z:Ctx}(h1:find Z "front"=some (.d (aj f)))(h2:find Z "rows"=some (.d (bk ae)))(h3:find Z "other"=some (.d (pairD p))):pe (KR p ae f) Z uD=some (.d (cO (readOf p ae f))):=by
 unfold uD
 exact fc (ay (fc (ay (fc (ay (v_var h1) (ay (v_var h2) (ay (v_var h3) aO))) rfl (Ma p ae f)) aO) rfl (L' p ae f)) aO) rfl (L9 p ae f)
end
theorem E4{α:Type}{n:Nat}{K:aI}(xs:List α)(aY out:α->D)(Ka:α->aI){elt it:E}{x:String}{an:List String}{cs:List (String×D)}(sc:Scope)(e:Expr)(aa:Env)(c:Cx)(Z:Ctx)(ok:bQ c n K)(ce:b9 sc aa)
  (hc:aN sc (.comp elt x .no it .absent an) e=true) (hi:(pe K Z it).bind (er .no)=some (xs.map aY)) (jo:fo Z an=some cs) (hz:xs.length<=100000) (hK:∀a∈xs,bQ c n (Ka a))
  (he:∀a∈xs,pe (Ka a) ((x,.d (aY a))::b6 cs) elt=some (.d (out a))):jJ c n aa Z sc e (.d (.list (xs.map out))):=by
 refine bR (tT jo) λk1 k2=>ym hc λelt' px iter ifs aX pos c2 c3 c4 c5 c6 c7 c8=>?_
 have KK:=kM an k1 c4 k2
 refine ab (congrArg (List.map out) (List.filter_eq_self.mpr λ_ _=>rfl).symm:xs.map out=(xs.filter λ_=>true).map out)<|⟨KK,mY (aL:=.no) (it:=it) ce c8 hi λ{e l} a b=>bG n K it sc e aa c Z l ok ce a b,?_,λv=>kD c7⟩
 refine qd (x:=x) xs aY _ _ KK hz (gJ c3) c2 λc' bx a lk bV ha=>⟨?_,λ_=>bG n (Ka a) elt aX _ bx c' _ _ ((hK a ha).eI lk) bV c5 (he a ha)⟩
 cases ifs with
 | nil=>exact tX
 | cons t1 r=>exact fT c6
theorem CS{n:Nat}{x:String}{a:E}{sc:Scope}{st:Stmt}{aa:Env}{c:Cx}{Z:Ctx}{d:D}(hf:sc.kind=.function)(eo:bI c sc aa)(hc:jL sc (.assign x a) st=true)(hcomp:∃elt y g it t cs,a=.comp elt y g it t cs)
  (H:∀e,aN sc a e=true->jJ c n aa Z sc e (.d d)):bY c n aa Z st λo=>o=.next (upd Z x (.d d)):=
 aQ hc λs=>uf hf eo s.1.1.1.2.2 s.2 ((H _ s.1.2.1.2).ev eo.c) λ_ _ _ _ _=>H _ s.1.2.1.2
end
section
noncomputable def ni:List D->Option (List Nat)
 | []=>some []
 | .str x::r=>(dC x.cps.toList).bind λk=>(ni r).map (k::·)
 | _::_=>none
noncomputable def itemOf:D->Option bZ
 | .list [.bool b,.list ss]=>(ni ss).map λl=>(b,l)
 | _=>none
noncomputable def lN:List D->Option (List bZ)
 | []=>some []
 | d::r=>(itemOf d).bind λi=>(lN r).map (i::·)
theorem xd:∀{l:List D} {ks:List Nat},ni l=some ks->l=ks.map λk=>sd [k]
 | [],_,h=>by refine aC h ?_;rfl
 | .str x::r,ks,h=>by
  unfold ni at h
  refine bE h λk h1 h2=>mE h2 λjs h3=>?_
  rw[List.map_cons,<- xd h3]
  have:=eE h1
  congr 1
  show D.str x=D.str (S [k])
  rw[<- this,<- i6 x]
 | .none::_,_,h | .bool _::_,_,h | .int _::_,_,h | .bytes _::_,_,h | .ty _::_,_,h | .bi _::_,_,h | .ref _::_,_,h | .obj::_,_,h | .raw _::_,_,h | .list _::_,_,h | .tup _::_,_,h=>by exact nS h
theorem wy:∀ks:List Nat,ni (ks.map λk=>sd [k])=some ks
 | []=>rfl
 | k::r=>by
  rw[List.map_cons]
  show(dC (S [k]).cps.toList).bind _=_
  rw[ja,wy r];rfl
theorem EM{d:D}{i:bZ}(h:itemOf d=some i):d=fU i:=by
 unfold itemOf at h
 split at h
 ·refine mE h λl h1=>?_
  rw[xd h1];rfl
 ·exact nS h
theorem B8(i:bZ):itemOf (fU i)=some i:=by
 show(ni (i.2.map λk=>sd [k])).map _=_
 rw[wy];rfl
theorem xk:∀{l:List D} {is:List bZ},lN l=some is->l=is.map fU
 | [],_,h=>by refine aC h ?_;rfl
 | d::r,is,h=>by
  unfold lN at h
  refine bE h λi h1 h2=>mE h2 λjs h3=>?_
  rw[List.map_cons,<- xk h3,<- EM h1]
theorem wC:∀is:List bZ,lN (is.map fU)=some is
 | []=>rfl
 | i::r=>by rw[List.map_cons,lN,B8,wC r];rfl
noncomputable def nH:String->List D->Option D
 | f,[.list l,.str x]=>if f="_law_takes" then(lN l).bind λis=>if is.length<=1000/\x.cps.toList.length<=1000 then some (.bool (eT is x.cps.toList))else none else none
 | _,_=>none
open Classical in
noncomputable def rR(i:fH)(T:Str->Bool)(aM:List Str)(aE:Str->Int):Addr->String->List D->Option D
 | a,m,[f,.str k]=>if a=i.x/\m="names"/\f=sd nh/\mw T aM aE k then some (.int (aE k))else none
 | _,_,_=>none
noncomputable def mF(i:fH)(T:Str->Bool)(aM:List Str)(aE:Str->Int):aI:=⟨nH,λ_ _ _=>none,rR i T aM aE,λ_ _=>none⟩
section
variable {i:fH} {T:Str->Bool} {m:Nat} {aM:List Str} {aE:Str->Int}
set_option tactic.hygienic true in
theorem Lf{c:Cx}(X:eU c i T m aM aE)(ok:o7 T aM aE)(tz:c.tz):bQ c 2 (mF i T aM aE):=by
 refine⟨tz,λf ds r h=>?_,(λ_ _ _ _ h=>nomatch h),λa g ds r h c' lk=>?_⟩
 ·have h':nH f ds=some r:=h
  unfold nH at h'
  split at h'
  ·split at h'
   ·rename_i l x hf
    refine ab hf<|bE (h') λis h1 h2=>?_
    split at h2
    ·rename_i hc
     refine aC h2 ?_
     rw[xk h1]
     have e:D.str x=sd x.cps.toList:=congrArg D.str (i6 x)
     rw[e]
     exact⟨209,_,_,zc,ej (by decide+kernel),GL hc.1 hc.2⟩
    ·exact nS h2
   ·exact nS h'
  ·exact nS h'
 ·have h':rR i T aM aE a g ds=some r:=h
  unfold rR at h'
  split at h'
  ·split at h'
   ·rename_i f k hc
    obtain⟨rfl,rfl,rfl,hk⟩:=hc
    exact aC h'<|Gz (X.eI lk) ok hk
   ·exact nS h'
  ·exact nS h'
noncomputable abbrev tD(t:Int×List Nat):D:=.list [.int t.1,aj t.2]
noncomputable def iY(read:List (List bZ))(name:List Nat):List Nat:=(List.range read.length).filter λk=>eT (read.getD k []) name
noncomputable def qP:E:=.comp (.list [(.imeth (.var "reader") "names" [(.str [47,109,46,112,121]),(.var "name")]),(.comp (.var "k") "k" .up (.bcall .len [(.var "read")]) (.tv (.call "_law_takes" [(.item (.var "read") (.var "k")),(.var "name")])) ["read","name"])]) "name" .no (.bin .Add (.var "names") (.var "strange")) .absent ["reader","read"]
theorem JA{Z:Ctx}{names gk:List (List Nat)}{read:List (List bZ)}(hn:names.length+gk.length<=1000)(hr:read.length<=100)(hi:∀r∈read,r.length<=1000)
  (f1:find Z "reader"=some (.d (.ref i.x))) (f2:find Z "read"=some (.d (.list (read.map cO)))) (f3:find Z "names"=some (.d (hU names))) (f4:find Z "strange"=some (.d (hU gk)))
  (ha:∀nm∈names++gk,nm.length<=1000/\mw T aM aE (S nm)):pe (mF i T aM aE) Z qP=some (.d (.list (((names++gk).map λnm=>(aE (S nm),iY read nm)).map tD))):=by
 unfold qP
 rw[List.map_map]
 have hcat:pe (mF i T aM aE) Z (.bin .Add (.var "names") (.var "strange"))=some (.d (.list ((names++gk).map sd))):=by
  have:=aU (K:=mF i T aM aE) (v_var f3) (v_var f4) (iz (x:=names.map sd) (y:=gk.map sd) rfl rfl (by rw[List.length_map,List.length_map];exact Nat.le_trans ‹_› (Nat.le_add_left _ _)))
  rwa [<- List.map_append]at this
 refine gH (names++gk) sd (λnm=>tD (aE (S nm),iY read nm)) (dT hcat) (cs:=[("reader",.ref i.x),("read",.list (read.map cO))]) (by simp[fo,f1,f2]) (by rw[List.length_append];exact Nat.le_trans ‹_› (Nat.le_add_left _ _)) λnm hnm=>?_
 have aw:=ha nm hnm
 have hl:=aw.1
 have hk:=aw.2
 refine fO (ds:=[.int (aE (S nm)),aj (iY read nm)]) (ay (x:=.d (.int (aE (S nm)))) ?_ (ay (x:=.d (aj (iY read nm))) ?_ aO)) rfl (Nat.le_add_left _ _)
 ·exact Hm (v_var rfl) (ay bc (ay (v_var rfl) aO)) rfl (show rR i T aM aE i.x "names" [sd nh,sd nm]=_ from if_pos ⟨rfl,rfl,rfl,hk⟩)
 ·show _=some (LV.d (.list ((iY read nm).map λf:Nat=>.int (f:Int))))
  have aV:∀G:Ctx,find G "read"=some (.d (.list (read.map cO)))->pe (mF i T aM aE) G (.bcall .len [.var "read"])=some (.d (.int (read.length:Int))):=λG h=>by
   have:=ek (K:=mF i T aM aE) (f:=.len) (ay (v_var h) aO) (on (ds:=read.map cO) rfl (by rw[List.length_map];lia))
   rwa [List.length_map]at this
  unfold iY
  refine j6 (List.range read.length) (λk:Nat=>.int (k:Int)) (λk=>eT (read.getD k []) nm) (λk:Nat=>.int (k:Int)) (oC (aV _ rfl) (Nat.le_trans ‹_› (Nat.le_add_left _ _))) (cs:=[("read",.list (read.map cO)),("name",sd nm)]) (by simp[fo,find]) (by rw[List.length_range];exact Nat.le_trans ‹_› (Nat.le_add_left _ _)) (λk hk'=>?_) λk _ _=>v_var rfl
  have gX:=List.mem_range.mp hk'
  show pt _ _ _=_
  refine fw (x:=.d (.bool (eT (read.getD k []) nm))) (fc (ds:=[cO (read.getD k []),sd nm]) (ay (cS (v_var rfl) (v_var rfl) (item_list (ds:=read.map cO) rfl (d:=cO (read.getD k [])) ?_ (by rw[List.length_map];lia))) (ay (v_var rfl) aO)) rfl ?_) rfl
  ·rw[List.getElem?_map,List.getElem?_eq_getElem gX,List.getD_eq_getElem?_getD,List.getElem?_eq_getElem gX];rfl
  ·have du:(read.getD k []).length<=1000:=by
    rw[List.getD_eq_getElem?_getD,List.getElem?_eq_getElem gX]
    exact hi _ (List.getElem_mem gX)
   have:nH "_law_takes" [cO (read.getD k []),sd nm]=some (.bool (eT (read.getD k []) nm)):=by
    have e:nH "_law_takes" [cO (read.getD k []),sd nm]=(lN ((read.getD k []).map fU)).bind λis=>if is.length<=1000/\(S nm).cps.toList.length<=1000 then some (.bool (eT is (S nm).cps.toList))else none:=by
     unfold nH
     dsimp only[sd,cO]
     rw[if_pos rfl]
    rw[e,wC,Option.bind_some,ja,if_pos ⟨du,hl⟩]
   exact this
end
noncomputable def nI:String->List D->Option D
 | f,[g,.list rs,.list fs]=>if f="_law_due" then(kg g).bind λg=>(kU rs).bind λrs=>(kU fs).bind λfs=>if g.length<=4/\(∀r∈rs,r.length<=4)/\rs.length<=1000/\(∀r∈fs,r.length<=4)/\fs.length<=1000 then mr g rs fs else none else none
 | _,_=>none
noncomputable def vz:aI:=⟨nI,λ_ _ _=>none,λ_ _ _=>none,λ_ _=>none⟩
set_option tactic.hygienic true in
theorem Lh(c:Cx)(tz:c.tz):bQ c 1 vz:=by
 refine⟨tz,λf ds r h=>?_,(λ_ _ _ _ h=>nomatch h),λ_ _ _ _ h=>nomatch h⟩
 have h':nI f ds=some r:=h
 unfold nI at h'
 split at h'
 ·split at h'
  ·rename_i g rs fs hf
   refine ab hf<|bE (h') λg' h1 h'=>bE (h') λrs' h2 h'=>bE (h') λfs' h3 h'=>?_
   split at h'
   ·rename_i hc
    rw[tr h1,tq h2,tq h3]
    exact⟨219,_,_,uS,ej (by decide+kernel),IT hc.1 hc.2.1 hc.2.2.1 hc.2.2.2.1 hc.2.2.2.2 h'⟩
   ·exact nS h'
  ·exact nS h'
 ·exact nS h'
noncomputable def rC:E:=.bin .Add (.comp (.call "_law_due" [(.var "row"),(.var "rows"),(.var "fronts")]) "row" .no (.var "figures") .absent ["rows","fronts"]) (.comp (.list [(.int 0),(.list [])]) "name" .no (.var "strange") .absent [])
theorem Lj{Z:Ctx}{figs ae aR gk:List (List Nat)}{due:List Nat->Int×List Nat}(hg:figs.length+gk.length<=1000)(hr:ae.length<=1000)(gF:aR.length<=1000)(hg4:∀g∈figs,g.length<=4)(hr4:∀r∈ae,r.length<=4)(hf4:∀f∈aR,f.length<=4)
  (f1:find Z "figures"=some (.d (bk figs))) (f2:find Z "rows"=some (.d (bk ae))) (f3:find Z "fronts"=some (.d (bk aR))) (f4:find Z "strange"=some (.d (hU gk)))
  (hd:∀g∈figs,mr g ae aR=some (tD (due g))):pe vz Z rC=some (.d (.list ((figs.map due++gk.map λ_=>(0,[])).map tD))):=by
 unfold rC
 rw[List.map_append,List.map_map,List.map_map]
 refine aU (gH figs aj (λg=>tD (due g)) (dT (v_var f1)) (cs:=[("rows",bk ae),("fronts",bk aR)]) (by simp[fo,f2,f3]) (by lia) λg hg'=>?_)
  (gH gk sd (λ_=>tD (0,[])) (dT (v_var f4)) (cs:=[]) rfl (by lia) λx _=>?_) (iz (x:=figs.map λg=>tD (due g)) (y:=gk.map λ_=>tD (0,[])) rfl rfl (by rw[List.length_map,List.length_map];exact Nat.le_trans ‹_› (Nat.le_add_left _ _)))
 ·refine fc (ds:=[aj g,bk ae,bk aR]) (ay (v_var rfl) (ay (v_var rfl) (ay (v_var rfl) aO))) rfl ?_
  have:nI "_law_due" [aj g,bk ae,bk aR]=some (tD (due g)):=by
   have e:nI "_law_due" [aj g,bk ae,bk aR]=(kg (aj g)).bind λg=>(kU (ae.map aj)).bind λrs=>(kU (aR.map aj)).bind λfs=>if g.length<=4/\(∀r∈rs,r.length<=4)/\rs.length<=1000/\(∀r∈fs,r.length<=4)/\fs.length<=1000 then mr g rs fs else none:=by
    unfold nI
    dsimp only
    rw[if_pos rfl]
   rw[e,sB,Option.bind_some,sT,Option.bind_some,sT,Option.bind_some,if_pos ⟨hg4 g hg',hr4,hr,hf4,gF⟩,hd g hg']
  exact this
 ·exact fO (ds:=[.int 0,.list []]) (ay aK (ay lT aO)) rfl (Nat.le_add_left _ _)
end
section
section
variable {prog:Program} {w:World} {A:Around} {R:Result->Shared->Prop} {s:Shared}
theorem Bl{elt target iter:Expr}{ifs:List Expr}{scope:Scope}{pos:Pos}{it acc:Value}{aa:Env}(I:Nat->Shared->Prop)
  (turn:∀n s,I n s->wpAny (model prog w) A (pyNext it) (λr aD=>match r with
   | none=>R (.ok .next) aD
   | some v=>wpAny (model prog w) A (letOwnedTupleGo target it v >>= λ_=>assign target aa v) (λ_ ey=>
     wpAny (model prog w) A (forIn ifs true λc r=>if r=true then do let ok <- isTrue c aa (eval c aa);pure (ForInStep.yield ok)else pure (ForInStep.yield r)) (λok fX=>
      if ok=true then wpAny (model prog w) A (eval elt aa) (λx s₄=>
       wpAny (model prog w) A (call (.builtin "list.append") [acc,x]) (λ_ s₅=>∃m,m < n/\I m s₅) (notedBy (model prog w) A aa λe s'=>R (.error e) s') s₄) (notedBy (model prog w) A aa λe s'=>R (.error e) s') fX
      else ∃m,m < n/\I m fX) (notedBy (model prog w) A aa λe s'=>R (.error e) s') ey) (notedBy (model prog w) A aa λe s'=>R (.error e) s') aD) (notedBy (model prog w) A aa λe s'=>R (.error e) s') s)
  (n:Nat) (h:I n s):codeAny (model prog w) A (.compLoop (.ListComp elt [⟨target,iter,ifs,0⟩] scope pos) 0 it acc aa) R s:=by
 refine codeAny_loop rfl I (λn s hI=>?_) n h
 refine(?_:wpAny _ A ((compTurn (.ListComp elt [⟨target,iter,ifs,0⟩] scope pos) 0 it acc aa).onRaise (λx=>do noteFrame x aa;theTreesLotGoes x)) _ _ s)
 refine wpAny_noted ?_
 rw[compTurn_list]
 refine wpAny_bind (wpAny_standAt (wpAny_bind (wpAny_mono (turn n s hI) (λr aD gw=>?_) λ_ _ h'=>h')))
 cases r with
 | none=>exact wpAny_pure gw
 | some v=>
  have key:∀(k:Sem Fin) (Q:Fin->Shared->Prop) (E:Value->Shared->Prop),wpAny (model prog w) A (letOwnedTupleGo target it v >>= λ_=>assign target aa v) (λ_ ey=>wpAny (model prog w) A k Q E ey) E aD->wpAny (model prog w) A (letOwnedTupleGo target it v >>= λ_=>assign target aa v >>= λ_=>k) Q E aD:=λk Q E hk=>by
   have:=wpAny_bind hk
   rwa [bind_assoc]at this
  refine key _ _ _ (wpAny_mono gw (λ_ ey h₂=>wpAny_bind (wpAny_mono h₂ (λok fX h₃=>?_) λ_ _ h'=>h')) λ_ _ h'=>h')
  cases ok with
  | false=>exact wpAny_pure ⟨rfl,h₃⟩
  | true=>
   exact wpAny_bind (wpAny_bind (wpAny_mono h₃ (λx s₄ h₄=>wpAny_bind (wpAny_mono h₄ (λ_ s₅ h₅=>wpAny_pure (wpAny_pure ⟨rfl,h₅⟩)) λ_ _ h'=>h')) λ_ _ h'=>h'))
set_option tactic.hygienic true in
theorem F0{elts:List Expr}{k:Nat}{p:Pos}{i:Addr}{v:Value}{o:Obj}{E:Value->Shared->Prop}{Q:Unit->Shared->Prop}(ho:s.heap.get? i=some o)(hc:l5 o.cls=true)(h:Q () s):wpAny (model prog w) A (letOwnedTupleGo (.Tuple elts k p) (.ref i) v) Q E s:=by
 unfold letOwnedTupleGo
 dsimp only
 cases v
 case ref a=>
  refine wpAny_bind (wpAny_load ho ?_)
  unfold l5 at hc
  split
  ·rename_i n vs dS hd
   rw[dS]at hc
   simp only[Bool.and_eq_true,Bool.not_eq_true']at hc
   refine KFB.if_not ?_ (wpAny_pure h)
   refine ab hc.1 ?_;rw[Bool.false_and]
  ·exact wpAny_pure h
 all_goals exact wpAny_pure h
end
section
variable {c:Cx} {n:Nat} {aa:Env} {Z:Ctx}
theorem CR{A:Around}{s:Shared}{ow:Ow}{x y:String}{px py tp:Pos}{k:Nat}{v:Value}{d1 d2:D}{Q:Unit->Shared->Prop}{E:Value->Shared->Prop}(rm:bh n A)(I:Inv c aa Z ow s)(hx:cr c aa x)(hy:cr c aa y)(r:ag s.heap (av c ow) v (.list [d1,d2]))
  (h:∀s',Inv c aa (upd (upd Z x (.d d1)) y (.d d2)) ow s'->Q () s'):wpAny (model pg c.w) A (assign (.Tuple [.Name (Str.ofString x) px,.Name (Str.ofString y) py] k tp) aa v) Q E s:=by
 refine ag.listE r λa vs ho la rs=>aq.bn rs (λv1 _ r1 rs la=>?_) la;refine aq.bn rs (λv2 _ r2 rs la=>?_) la;refine aq.bO rs (λla=>?_) la
 refine wpAny_bind (wpAny_standAt ?_)
 refine wpAny_bind (wpAny_holding ?_)
 refine iw (kun_itemsOf (items:=#[v1,v2]) rm.h la.isList λh' he hz=>?_)
 have st:Step c s {s with heap:=h'}:=.keep I.ok hz.1 (λb o e=>he b o (Nat.ne_of_lt (Heap.lt_size e)) e)
 have I1:=I.step st
 have r2':=r2.step I.ok I.bs st
 refine(?_:wpAny _ _ (assignInOrder [assign (.Name (Str.ofString x) px) aa,assign (.Name (Str.ofString y) py) aa] [v1,v2]) _ _ _)
 have I2:Inv (pinAt c h' [] [(v2,d2)]) aa Z ow {s with heap:=h'}:=I1.pinned (fp:=[]) (hl:=[(v2,d2)]) (λ_ h=>nomatch h) λp hp=>by
  rw[List.mem_singleton]at hp;exact ab hp r2'
 refine wpAny_bind (wpAny_holding (wpAny_assign_Name (fK (c:=pinAt c h' [] [(v2,d2)]) I2 hx (r1.step I.ok I.bs st) λs3 I3=>?_)))
 have I4:Inv c aa (upd Z x (.d d1)) ow s3:=I3.fS I1.bs.pins I1.ok.pv
 refine wpAny_bind (wpAny_holding (wpAny_assign_Name (fK I4 hy (I3.frm.held (v2,d2) (List.mem_append_left _ (List.mem_singleton.mpr rfl)):ag s3.heap (av c ow) v2 d2) λs5 I5=>?_)))
 exact wpAny_pure (h s5 I5)
theorem yA{af:Ctx}{an:List (String×D)}{x y:String}{d e:D}(au:x≠y)(m2:∀p∈an,find af p.1=some (.d p.2)):∀z l,find ((y,.d e)::(x,.d d)::b6 an) z=some l->find (upd (upd af x (.d d)) y (.d e)) z=some l:=λz l h=>by
 rw[ai]
 have h':(if y=z then some (LV.d e)else find ((x,.d d)::b6 an) z)=some l:=h
 split at h'
 ·rename_i q;rw[if_pos q];exact h'
 ·rename_i q;exact ab (if_neg q)<|sub_one m2 z l h'
theorem E2{α:Type}{sc0 sc:Scope}{elt iter:Expr}{x y:String}{px py tp pos:Pos}{kk:Nat}{ifs:List Expr}{an:List (String×D)}(xs:List α)(emb1 cF:α->D)(keep:α->Bool)(out:α->D)
  (K:f7 sc0 sc Z an) (hz:xs.length<=100000)
  (hx:sc.names.lookup (Str.ofString x)=some .local∨sc.names.lookup (Str.ofString x)=some .cell) (hxa:x≠"%acc")
  (hy:sc.names.lookup (Str.ofString y)=some .local∨sc.names.lookup (Str.ofString y)=some .cell) (hya:y≠"%acc") (ci:x≠y)
  (body:∀c' bx a,dN c c'->b9 sc bx->a∈xs->n0 c' n bx ((y,.d (cF a))::(x,.d (emb1 a))::b6 an) ifs (keep a)/\(keep a=true->Ev c' n bx ((y,.d (cF a))::(x,.d (emb1 a))::b6 an) elt (.d (out a)))):
  gN c n sc an elt [⟨.Tuple [.Name (Str.ofString x) px,.Name (Str.ofString y) py] kk tp,iter,ifs,0⟩] pos (xs.map λa=>.list [emb1 a,cF a]) ((xs.filter keep).map out):=by
 intro A c1 cenv D it fp hl P St s4 R Γ0 ow0 rm lk bV place L I0 f0 fc0 eo f8 hpk q
 have s0:ia c1 cenv it (xs.map λa=>.list [emb1 a,cF a]) fp St (CM D an xs λl=>(l.filter keep).map out) ((xs.map λa=>Mine.D.list [emb1 a,cF a]).length+1) s4:=⟨0,Γ0,ow0,rfl,Nat.zero_le _,⟨f0,fc0,eo⟩,I0,f8,hpk⟩
 have hycap:=K.off hy
 refine rB lk.w<|Bl (ia c1 cenv it (xs.map λa=>.list [emb1 a,cF a]) fp St (CM D an xs λl=>(l.filter keep).map out)) (λk s hs=>?_) _ s0
 refine wl L hs (λj af aH v d s3 hM hd bl Ip rv I3 ed back=>?_) λaf aH s3 hM I3=>?_
 ·refine bB hM λm1 m2 m3=>?_
  have hj:j < xs.length:=by simpa using bl
  obtain⟨a,ha,rfl⟩:∃a,xs[j]? =some a/\d=.list [emb1 a,cF a]:=by
   rw[List.getElem?_map,List.getElem?_eq_getElem hj]at hd
   exact aJ _ (List.getElem?_eq_getElem hj) ((Option.some.inj hd).symm)
  have eJ:a∈xs:=List.mem_of_getElem? ha
  refine ah ed λio hio hic=>wpAny_bind (F0 hio hic.2.2.2.2.2 (CR (c:=pinAt c1 s3.heap fp []) rm Ip (place x hx) (place y hy) rv λs5 I5=>?_))
  have aw:=body (pinAt c1 s3.heap fp []) cenv a ⟨lk.w,lk.V,lk.J,lk.D,lk.os,lk.tz⟩ bV eJ
  have t1:=aw.1
  have t2:=aw.2
  have tk1:xs.take (j+1)=xs.take j++[a]:=by
   refine ab List.take_add_one<|ab ha ?_;rfl
  refine t1 A s5 _ _ aH rm (I5.sub (yA ci m2)) λs6 st6=>?_
  have I6:=I5.step st6
  have facc:find (upd (upd af x (.d (emb1 a))) y (.d (cF a))) "%acc"=some (.own (((xs.take j).filter keep).map out)):=by rw[ai,if_neg hya,ai,if_neg hxa];exact m1
  have fcap:∀p∈an,find (upd (upd af x (.d (emb1 a))) y (.d (cF a))) p.1=some (.d p.2):=λp hp=>by
   rw[ai,if_neg (λe=>hycap p hp e.symm),ai,if_neg (λe=>(K.off hx) p hp e.symm)];exact m2 p hp
  cases hkp:keep a with
  | false=>
   refine back _ aH s6 I6 ⟨?_,fcap,m3⟩
   refine ab facc<|ab tk1 ?_
   dsimp only
   rw[List.filter_append,List.filter_cons,hkp]
   simp
  | true=>
   refine(t2 hkp).run A s6 _ _ aH rm (I6.sub (yA ci m2)) λv7 s7 r7 st7=>pY (c:=pinAt c1 s3.heap fp []) (I6.step st7) facc m3 r7 (by
    rw[List.length_map]
    have h1:=List.length_filter_le keep (xs.take j)
    have h2:(xs.take j).length<=xs.length:=by exact ab List.length_take<|Nat.min_le_right _ _
    lia) λs8 I8=>?_
   refine back _ aH s8 I8 ⟨?_,λp hp=>?_,m3⟩
   ·rw[ai,if_pos rfl,tk1]
    dsimp only
    rw[List.filter_append,List.filter_cons,hkp]
    simp
   ·rw[ai,if_neg (λe=>(K.at_ p hp).2.1 e.symm)];exact fcap p hp
 ·refine bB hM λm1 m2 m3=>?_
  rw[List.length_map,List.take_length]at m1
  exact q af aH s3 I3 m1 m3
end
end
theorem Kr(x y:Int×List Nat):eA 6 (tD x) (tD y)=true:=by
 show jZ (eA 5) [.int x.1,aj x.2] [.int y.1,aj y.2]=true
 have h:eA 5 (aj x.2) (aj y.2)=true:=si (f:=eA 4) (λ_ _=>rfl) x.2 y.2
 show(eA 5 (.int x.1) (.int y.1)&&(eA 5 (aj x.2) (aj y.2)&&jZ (eA 5) [] []))=true
 rw[h];rfl
theorem yM:∀l:List (Int×List Nat),kZ 6 (l.map tD) (l.map tD)=true
 | []=>rfl
 | x::r=>by
  rw[List.map_cons]
  show(eA 6 (tD x) (tD x)&&jZ (eA 6) (r.map tD) (r.map tD))=true
  rw[Kr x x]
  exact yM r
theorem Mf(l:List (Int×List Nat)):eB (l.map tD) (l.map tD)=true:=by
 induction l with
 | nil=>rfl
 | cons x r ih=>
  have h1:bA (.int x.1) (.int x.1)=true:=beq_self_eq_true x.1
  have h2:bA (aj x.2) (aj x.2)=true:=(ou x.2 x.2).trans (beq_self_eq_true _)
  have h:bA (tD x) (tD x)=true:=(oo _ _ _ _).trans (Bool.and_eq_true_iff.mpr ⟨h1,(oo _ _ _ _).trans (Bool.and_eq_true_iff.mpr ⟨h2,rfl⟩)⟩)
  exact(oo _ _ _ _).trans (Bool.and_eq_true_iff.mpr ⟨h,ih⟩)
noncomputable def z5:E:=.cmp .IsNot (.bcall .type [.var "one"]) (.glob "int")
inductive zU(sc:Scope):Stmt->Prop
 | mk {x elt a w1 b w2 w3 w4 t w5 test aX w6 w7 w8 w9 w10} (hk:(aN sc (.cmp .Eq (.var "told") (.var "due")) x&&nm "one" a&&nm "taken" b&&nm "told" t&&fj aX a&&fj aX b&&lR sc aX []&&aN aX (.var "one") elt&&aN aX z5 test)=true):zU sc (.Return (some (.BoolOp .And [x,.Compare (.ListComp elt [⟨.Tuple [.Name a w1,.Name b w2] w3 w4,.Name t w5,[test],0⟩] aX w6) [.Eq] [.List [] w7] w8] w9)) w10)
noncomputable def zq(sc:Scope):(e:Stmt)->{b:Bool // b=true->zU sc e}
 | .Return (some (.BoolOp .And [_,.Compare (.ListComp _ [⟨.Tuple [.Name _ _,.Name _ _] _ _,.Name _ _,[_],0⟩] _ _) [.Eq] [.List [] _] _] _)) _=>⟨_,.mk⟩
 | _=>⟨false,nofun⟩
noncomputable def Aa(sc:Scope)(e:Stmt):Bool:=(zq sc e).1
theorem Hz{n:Nat}{sc:Scope}{st:Stmt}{aa:Env}{c:Cx}{Z:Ctx}{l:List (Int×List Nat)}(tz:c.tz)(eo:bI c sc aa)(hc:Aa sc st=true)(hl:l.length<=1000)(f1:find Z "told"=some (.d (.list (l.map tD))))(f2:find Z "due"=some (.d (.list (l.map tD)))):
  bY c n aa Z st λo=>o=.ret (.bool true):=by
 have shq:=(zq _ _).2 hc;clear hc
 cases shq with
 | @mk x elt a pa b pb k tp t tpp test aX cpos lp cp bp rp hc=>
  simp only[Bool.and_eq_true]at hc
  obtain⟨⟨⟨⟨⟨⟨⟨⟨h1,h2⟩,h3⟩,h4⟩,h5⟩,h6⟩,h7⟩,h8⟩,h9⟩:=hc
  have e2:=lY h2
  have e3:=lY h3
  have e4:=lY h4
  subst e2 e3 e4
  have ok0:=q7 n c tz
  have hx:Ev c n aa Z x (.d (.bool true)):=by
   refine bG n K0 _ sc x aa c Z _ ok0 eo.c h1 (uy (v_var f1) (v_var f2) ?_)
   exact(tN rfl rfl (yM l)).trans (congrArg some (Mf l))
  have KK:f7 sc aX Z []:=kM [] trivial h7 rfl
  have hcomp:Ev c n aa Z (.ListComp elt [⟨.Tuple [.Name (Str.ofString "one") pa,.Name (Str.ofString "taken") pb] k tp,.Name (Str.ofString "told") tpp,[test],0⟩] aX cpos) (.d (.list [])):=by
   have run:=E2 (c:=c) (n:=n) (Z:=Z) (sc0:=sc) (sc:=aX) (elt:=elt) (iter:=.Name (Str.ofString "told") tpp) (x:="one") (y:="taken") (px:=pa) (py:=pb) (tp:=tp) (pos:=cpos) (kk:=k) (ifs:=[test]) (an:=[]) l (λt=>.int t.1) (λt=>aj t.2) (λ_=>false) (λt=>.int t.1) KK (by lia) (gJ h5) (by decide) (gJ h6) (by decide) (by decide) (λc' bx t lk bV ht=>⟨?_,λh=>nomatch h⟩)
   ·have ef:(l.filter λ_=>false).map (λt:Int×List Nat=>Mine.D.int t.1)=[]:=by
     rw[List.filter_eq_nil_iff.mpr (λ_ _=>by decide)];rfl
    rw[ef]at run
    exact ub eo.c KK (uI (bK f1 (by unfold eu;decide+kernel)) (tI _)) run (λv=>kD rfl)
   ·refine tW (jC n K0 z5 aX test bx c' _ false (q7 n c' (lk.tz▸tz)) bV h9 ?_)
    exact aS (ek (r:=.ty "int") (ay (v_var rfl) aO) rfl) (nc rfl) rfl
  have hy:Ev c n aa Z (.Compare (.ListComp elt [⟨.Tuple [.Name (Str.ofString "one") pa,.Name (Str.ofString "taken") pb] k tp,.Name (Str.ofString "told") tpp,[test],0⟩] aX cpos) [.Eq] [.List [] lp] cp) (.d (.bool true)):=by
   refine qK hcomp (oD (ds:=[]) gt (by simp)) (zL rfl) ?_
   with_unfolding_all rfl
  exact jX (yV hx (λ_=>hy) λh=>nomatch h) (.inl rfl) rfl
theorem nC{α:Type}{a:α}{l:List α}{G:Prop}(h:[]=a::l):G:=nomatch h
noncomputable def jP(i:bZ)(x:Nat):Bool:=decide (x∈i.2)!=i.1
noncomputable def gU:List bZ->List Nat->Bool
 | []=>List.isEmpty
 | i::is=>λxs=>List.casesOn xs false λx xs=>jP i x&&gU is xs
theorem lU(i:bZ)(is:List bZ)(x:Nat)(xs:List Nat):gU (i::is) (x::xs)=(jP i x&&gU is xs):=rfl
theorem HE(is:List bZ):∀(xs:List Nat),gU is xs=true↔is.length=xs.length/\∀k,k < xs.length->bad is xs k=false:=by
 induction is with
 | nil=>
  intro xs
  cases xs with
  | nil=>exact⟨λ_=>⟨rfl,λk h=>absurd h (Nat.not_lt_zero _)⟩,λ_=>rfl⟩
  | cons x xs=>exact⟨λh=>fT h,λh=>absurd h.1 (Nat.succ_ne_zero _).symm⟩
 | cons i is ih=>
  intro xs
  cases xs with
  | nil=>exact⟨λh=>fT h,λh=>absurd h.1 (Nat.succ_ne_zero _)⟩
  | cons x xs=>
   refine Bool.and_eq_true_iff.trans ⟨λh=>?_,λh=>?_⟩
   ·have q:=(ih xs).mp h.2
    exact⟨congrArg (·+1) q.1,λk=>Nat.casesOn k (λ_=>(Bool.not_eq_true' _).mp h.1) λk hk=>q.2 k (Nat.lt_of_succ_lt_succ hk)⟩
   ·exact⟨(Bool.not_eq_true' _).mpr (h.2 0 (Nat.succ_pos _)),(ih xs).mpr ⟨Nat.succ.inj h.1,λk hk=>h.2 (k+1) (Nat.succ_lt_succ hk)⟩⟩
theorem wT(is:List bZ)(xs:List Nat):eT is xs=gU is xs:=by
 rw[Bool.eq_iff_iff,HE]
 unfold eT
 rw[Bool.and_eq_true,beq_iff_eq,List.isEmpty_iff,List.filter_eq_nil_iff]
 constructor
 ·rintro⟨h1,h2⟩
  exact⟨h1,λk hk=>by simpa using h2 k (List.mem_range.mpr hk)⟩
 ·rintro⟨h1,h2⟩
  exact⟨h1,λk hk=>by simpa using h2 k (List.mem_range.mp hk)⟩
noncomputable def js(sep:Nat)(xs:List Nat):List Nat:=bT [sep] (xs.map λx=>[x])
theorem qt(sep x y:Nat)(r:List Nat):js sep (x::y::r)=x::sep::js sep (y::r):=rfl
theorem Nz(sep x:Nat):js sep [x]=[x]:=rfl
theorem oM(sep:Nat)(xs:List Nat):(js sep xs).length=2 * xs.length - 1:=by
 induction xs with
 | nil=>rfl
 | cons x r ih=>
  cases r with
  | nil=>rfl
  | cons y r=>rw[qt,List.length_cons,List.length_cons,ih];rfl
theorem Fs(is:List bZ):∀(xs:List Nat),is.length=xs.length->gU (km is) (js 46 xs)=gU is xs:=by
 induction is with
 | nil=>
  intro xs h
  cases xs with
  | nil=>rfl
  | cons _ _=>exact absurd h (Nat.succ_ne_zero _).symm
 | cons i r ih=>
  intro xs h
  cases xs with
  | nil=>exact absurd h (Nat.succ_ne_zero _)
  | cons x s=>
   cases r with
   | nil=>
    cases s with
    | nil=>rfl
    | cons _ _=>exact absurd (Nat.succ.inj h) (Nat.succ_ne_zero _).symm
   | cons j r=>
    cases s with
    | nil=>exact absurd (Nat.succ.inj h) (Nat.succ_ne_zero _)
    | cons y s=>exact congrArg (jP i x&&·) (ih (y::s) (Nat.succ.inj h))
theorem DU(g:Nat->Nat)(ao:List bZ)(f:List Nat):∀(xs:List Nat),gU (f.map (λs=>(false,[g s]))++ao) xs=(f.map g==xs.take f.length&&gU ao (xs.drop f.length)):=by
 induction f with
 | nil=>exact λxs=>rfl
 | cons a f ih=>
  intro xs
  cases xs with
  | nil=>rfl
  | cons x xs=>
   have h:jP (false,[g a]) x=(g a==x):=by
    rw[Bool.eq_iff_iff];simp[jP];exact eq_comm
   exact(congr (congrArg and h) (ih xs)).trans (Bool.and_assoc ..).symm
theorem HF(m:Nat):∀(xs:List Nat),gU (List.replicate m (true,[])) xs=(m==xs.length):=by
 induction m with
 | zero=>intro xs;cases xs<;>rfl
 | succ m ih=>
  intro xs
  cases xs with
  | nil=>rfl
  | cons x xs=>exact(ih xs).trans (by rw[Bool.eq_iff_iff,beq_iff_eq,beq_iff_eq];exact Nat.succ_inj.symm)
theorem readOf_eq(p:UInt8×UInt8)(ae:List (List Nat))(f:List Nat):(fY (jr p.1 p.2 f ae)).map Tk.item=km (f.map (λs=>((false,[bH p s]):bZ))++((true,dc ((cZ f ae).map (bH p)))::List.replicate (3 - f.length) (true,[]))):=by
 rw[wB]
 congr 1
 unfold jr
 refine ab List.map_append<|ab List.map_append<|ab List.map_map<|ab List.map_replicate ?_;rw[List.append_assoc]
 congr 1
 apply List.map_congr_left
 intro s _
 exact EL _
theorem oA{p:UInt8×UInt8}(hp:p∈cx){g:List Nat}(hg:bN g)(sep:Nat):fh (bX p) sep g=js sep (g.map (bH p)):=by
 delta fh js
 refine ab List.map_map ?_
 congr 1
 apply List.map_congr_left
 intro f hf
 exact zn hp (hg.2 f hf)
theorem oa{p:UInt8×UInt8}(hp:p∈cx){a:List Nat}:∀{b:List Nat},(∀x∈a,x < 64)->(∀x∈b,x < 64)->a.map (bH p)=b.map (bH p)->a=b:=by
 induction a with
 | nil=>exact λ_ _ h=>(List.map_eq_nil_iff.mp h.symm).symm
 | cons x a ih=>
  intro b ha hb h
  cases b with
  | nil=>exact nC h.symm
  | cons y b=>
   have h':=List.cons.inj h
   rw[(jU hp (ha x List.mem_cons_self)).1 y (hb y List.mem_cons_self) h'.1,ih (λz hz=>ha z (List.mem_cons_of_mem _ hz)) (λz hz=>hb z (List.mem_cons_of_mem _ hz)) h'.2]
theorem DW{p:UInt8×UInt8}(hp:p∈cx){ae:List (List Nat)}(R:b7 ae){f g:List Nat}(hf:eR ae f)(hg:bN g)(h4:g.length=4):
  eT ((fY (jr p.1 p.2 f ae)).map Tk.item) (fh (bX p) 46 g)=true↔f=g.take f.length/\g.getD f.length 0∉cZ f ae:=by
 refine bR (jW R hf) λhfo hf3=>?_
 have aV:(f.map (λs=>((false,[bH p s]):bZ))++((true,dc ((cZ f ae).map (bH p)))::List.replicate (3 - f.length) (true,[]))).length=(g.map (bH p)).length:=by
  simp only[List.length_append,List.length_map,List.length_cons,List.length_replicate];lia
 rw[wT,readOf_eq,oA hp hg,Fs _ _ aV,DU,Bool.and_eq_true,beq_iff_eq]
 have bl:f.length < g.length:=by lia
 have e1:f.map (bH p)=(g.map (bH p)).take f.length↔f=g.take f.length:=by
  refine rB List.map_take<|⟨λh=>oa hp hfo.2 (λx hx=>hg.2 x (List.mem_of_mem_take hx)) h,λh=>by exact rB h rfl⟩
 rw[e1]
 refine and_congr_right λ_=>?_
 have hd:(g.map (bH p)).drop f.length=bH p (g.getD f.length 0)::(g.map (bH p)).drop (f.length+1):=by
  refine ab (List.drop_eq_getElem_cons (by rw[List.length_map];exact bl)) ?_;rw[List.getElem_map,List.getD_eq_getElem?_getD,List.getElem?_eq_getElem bl];rfl
 refine ab hd ?_;rw[lU,HF,Bool.and_eq_true,beq_iff_eq]
 have e2:jP (true,dc ((cZ f ae).map (bH p))) (bH p (g.getD f.length 0))=true↔g.getD f.length 0∉cZ f ae:=by
  dsimp only[jP]
  simp only[bne_iff_ne,ne_eq,decide_eq_true_eq,y7,List.mem_map]
  constructor
  ·rintro h hm
   exact h ⟨_,hm,rfl⟩
  ·rintro h ⟨y,hy,e⟩
   exact h (((jU hp (jw hg _:g.getD f.length 0 < 64)).1 y (sH R hf hy) e.symm)▸hy)
 rw[e2]
 refine⟨λh=>h.1,λh=>⟨h,?_⟩⟩
 refine ab List.length_drop ?_;rw[List.length_map];lia
section
theorem zE(sep:Nat){xs:List Nat}:∀{ys:List Nat},xs≠[]->ys≠[]->js sep xs=js sep ys->xs=ys:=by
 induction xs with
 | nil=>exact λh=>absurd rfl h
 | cons x r ih=>
  intro ys _ hy h
  cases ys with
  | nil=>exact absurd rfl hy
  | cons y s=>
   cases r with
   | nil=>
    cases s with
    | nil=>exact h
    | cons z t=>exact nC (List.cons.inj (h:x::[]=y::sep::_)).2
   | cons c r=>
    cases s with
    | nil=>exact nC (List.cons.inj (h:x::sep::_=y::[])).2.symm
    | cons b s=>
     have h1:=List.cons.inj (h:x::sep::js sep (c::r)=y::sep::js sep (b::s))
     rw[h1.1,ih (List.cons_ne_nil _ _) (List.cons_ne_nil _ _) (List.cons.inj h1.2).2]
noncomputable def bU(a b:List Nat):Prop:=∃t,b=a++t
theorem Ks{xs:List Nat}:∀{ys:List Nat},xs≠[]->bU (js 46 xs++[46]) (js 46 ys)->xs.length < ys.length/\xs=ys.take xs.length:=by
 induction xs with
 | nil=>exact λh _=>absurd rfl h
 | cons x r ih=>
  intro ys _ hp
  refine Exists.elim hp λt h=>?_
  cases ys with
  | nil=>cases r<;>exact nC h
  | cons y s=>
   cases s with
   | nil=>cases r<;>exact nC (List.cons.inj (h:y::[]=x::46::_)).2
   | cons b s=>
    cases r with
    | nil=>exact⟨Nat.succ_lt_succ (Nat.succ_pos _),(List.cons.inj (h:y::_=x::_)).1▸rfl⟩
    | cons c r=>
     have h1:=List.cons.inj (h:y::46::js 46 (b::s)=x::46::(js 46 (c::r)++[46]++t))
     exact(ih (ys:=b::s) (List.cons_ne_nil _ _) ⟨t,(List.cons.inj h1.2).2⟩).elim λh2 h3=>⟨Nat.succ_lt_succ h2,(congr (congrArg List.cons h1.1.symm) h3:)⟩
theorem JT{xs ys:List Nat}(hx:xs≠[])(hl:xs.length < ys.length)(h:xs=ys.take xs.length):bU (js 46 xs++[46]) (js 46 ys):=by
 induction xs generalizing ys with
 | nil=>exact absurd rfl hx
 | cons x r ih=>
  match ys,hl,h with
  | y::s,hl,h=>
   rw[List.length_cons,List.take_succ_cons,List.cons.injEq]at h
   obtain⟨rfl,h2⟩:=h
   match s,hl,h2 with
   | b::s',hl,h2=>
    cases r with
    | nil=>exact⟨js 46 (b::s'),rfl⟩
    | cons a r'=>
     refine aW (ih (ys:=b::s') (of_decide_eq_true rfl) (by simpa using hl) h2) λt ht=>⟨t,?_⟩
     rw[qt,qt,ht]
     rfl
theorem Kt{xs:List Nat}(hx:xs≠[]):(js 46 xs++[46])[1]? =some 46:=by
 match xs,hx with
 | [x],_=>rfl
 | x::a::r,_=>rfl
noncomputable def kA(l:List Nat)(s m:Nat):List Nat:=bT [46] (l.map (λx=>[x])++[[s,s]]++List.replicate m [65])
theorem Cy{sep:List Nat}{a:List Nat}{r:List (List Nat)}(h:r≠[]):bT sep (a::r)=a++sep++bT sep r:=by
 cases r with
 | nil=>exact absurd rfl h
 | cons b s=>rfl
theorem yW(s m:Nat):∃t,kA [] s m=s::s::t:=by
 cases m with
 | zero=>exact⟨[],rfl⟩
 | succ m=>exact⟨_,rfl⟩
theorem tQ(x:Nat)(l:List Nat)(s m:Nat):kA (x::l) s m=x::46::kA l s m:=by
 unfold kA
 refine ab List.map_cons ?_;rw[List.cons_append,List.cons_append,Cy (by simp)]
 rfl
theorem yX(l:List Nat)(s m:Nat):(kA l s m).length=2 * (l.length+m)+2:=by
 induction l with
 | nil=>
  cases m with
  | zero=>rfl
  | succ m=>
   have hk:∀k:Nat,(bT [46] (List.replicate (k+1) [65])).length=2 * k+1:=λk=>by
    induction k with
    | zero=>rfl
    | succ k ih=>exact congrArg (·+2) ih
   refine(congrArg (·+3) (hk m)).trans ?_
   rw[List.length_nil,Nat.zero_add];rfl
 | cons x l ih=>rw[tQ,List.length_cons,List.length_cons,ih,List.length_cons];lia
theorem Jc{s m:Nat}(hs:s≠46){l:List Nat}:∀{xs:List Nat},xs≠[]->bU (js 46 xs++[46]) (kA l s m)->xs.length<=l.length/\xs=l.take xs.length:=by
 induction l with
 | nil=>
  intro xs hx hp
  refine Exists.elim hp λt h=>(yW s m).elim λt' e=>?_
  have h:=e.symm.trans h
  cases xs with
  | nil=>exact absurd rfl hx
  | cons x r=>cases r<;>exact absurd (List.cons.inj (List.cons.inj h).2).1 hs
 | cons y l ih=>
  intro xs hx hp
  refine Exists.elim hp λt h=>?_
  have h:=(tQ ..).symm.trans h
  cases xs with
  | nil=>exact absurd rfl hx
  | cons x r=>
   cases r with
   | nil=>exact⟨Nat.succ_le_succ (Nat.zero_le _),(List.cons.inj (h:y::_=x::_)).1▸rfl⟩
   | cons c r=>
    have h1:=List.cons.inj (h:y::46::kA l s m=x::46::(js 46 (c::r)++[46]++t))
    exact(ih (List.cons_ne_nil _ _) ⟨t,(List.cons.inj h1.2).2⟩).elim λh2 h3=>⟨Nat.succ_le_succ h2,(congr (congrArg List.cons h1.1.symm) h3:)⟩
noncomputable def eG(p:UInt8×UInt8)(row:List Nat):List Nat:=js 46 (row.map (bH p))
noncomputable def mG(p:UInt8×UInt8)(ae:List (List Nat))(nm:List Nat):Prop:=∃r∈ae,eG p r=nm∨bU (eG p r++[46]) nm
section
variable {p:UInt8×UInt8} {ae:List (List Nat)}
theorem ya(hp:p∈cx)(R:b7 ae){g:List Nat}(hg:bN g)(h4:g.length=4):mG p ae (fh (bX p) 46 g)↔∃r∈ae,r=g.take r.length:=by
 rw[oA hp hg]
 delta mG eG
 refine exists_congr λr=>and_congr_right λhr=>?_
 have au:r.map (bH p)≠[]:=λe=>R.ne r hr (List.map_eq_nil_iff.mp e)
 have hgn:g.map (bH p)≠[]:=λe=>by
  have:=congrArg List.length e
  simp at this;simp[this]at h4
 constructor
 ·rintro(h | h)
  ·skip
   refine ab (oa hp (R.ok r hr).2 hg.2 (zE 46 au hgn h)) ?_;rw[List.take_length]
  ·have h2:=(Ks au h).2
   rw[List.length_map,<- List.map_take]at h2
   exact oa hp (R.ok r hr).2 (λx hx=>hg.2 x (List.mem_of_mem_take hx)) h2
 ·intro h
  by_cases q:r.length < g.length
  ·exact .inr (JT au (by rw[List.length_map,List.length_map];exact q) (by rw[List.length_map,<- List.map_take,<- h]))
  ·refine .inl ?_
   rw[List.take_of_length_le (Nat.not_lt.mp ‹_›)]at h
   exact ab h rfl
theorem wd(hp:p∈cx){r:List Nat}(hr:bN r)(au:r≠[]):∃l z,r=l++[z]/\gM r (bX p)=kA (l.map (bH p)) (bH p z) (4 - r.length):=by
 refine mB r.dropLast (r.getLast au) ((List.dropLast_concat_getLast au).symm) ?_
 have hz:r.getLastD 0=r.getLast au:=by refine ab List.getLastD_eq_getLast?<|ab (List.getLast?_eq_some_getLast au) ?_;rfl
 delta gM kA
 refine ab hz<|ab ((jU hp (hr.2 _ (List.getLast_mem au):r.getLast au < 64)).2.2.2.2) ?_
 congr 2
 congr 1
 refine ab List.map_map ?_
 apply List.map_congr_left
 intro f hf
 exact zn hp (hr.2 f ((List.dropLast_sublist _).subset hf))
theorem CB(hp:p∈cx)(R:b7 ae){r:List Nat}(hr:r∈ae):¬mG p ae (gM r (bX p)):=by
 refine cR (wd hp (R.ok r hr) (R.ne r hr)) λl z e hd=>?_
 have aV:r.length=l.length+1:=by refine ab e ?_;simp
 refine ab hd ?_
 rintro⟨o,ho,h | h⟩
 ·have:=congrArg List.length h
  unfold eG at this
  rw[oM,yX,List.length_map,List.length_map]at this
  omega
 ·skip
  obtain⟨h1,h2⟩:=Jc (jU hp ((R.ok r hr).2 z (by refine ab e ?_;simp):z < 64)).2.1 (λe=>R.ne o ho (List.map_eq_nil_iff.mp e):o.map (bH p)≠[]) h
  rw[List.length_map,List.length_map]at h1
  rw[List.length_map,<- List.map_take]at h2
  have au:o≠r:=λq=>by rw[q,aV]at h1;exact absurd ‹_› (Nat.lt_irrefl _)
  exact R.free r hr o ho au<|ab e<|ab (List.take_append_of_le_length h1)<|(oa hp (R.ok o ho).2 (λx hx=>(R.ok r hr).2 x (by exact ab e<|List.mem_append_left _ (List.mem_of_mem_take hx))) h2)
theorem GE(hp:p∈cx)(R:b7 ae){g:List Nat}(hg:bN g)(h4:g.length=4):¬mG p ae (fh (bX p) 65 g):=by
 rw[oA hp hg]
 have e1:(js 65 (g.map (bH p)))[1]? =some 65:=by
  match g,h4 with
  | [a,b,c,d],_=>rfl
 rintro⟨o,ho,h | ⟨t,h⟩⟩
 ·skip
  have hl:=congrArg List.length h
  unfold eG at hl h
  rw[oM,oM,List.length_map,List.length_map,h4]at hl
  rw[<- h]at e1
  match o,(by lia:o.length=4)with
  | [a,b,c,d],_=>cases e1
 ·skip
  have h1:=Kt (λe=>R.ne o ho (List.map_eq_nil_iff.mp e):o.map (bH p)≠[])
  replace e1:=h▸e1
  have h3:1 < (eG p o++[46]).length:=by
   by_cases q:1 < (eG p o++[46]).length
   ·exact q
   ·unfold eG at q
    replace h1:=Eq.trans (Eq.symm (List.getElem?_eq_none (Nat.not_lt.mp ‹_›))) h1;exact nS h1
  replace e1:=(List.getElem?_append_left h3)▸e1
  unfold eG at e1
  replace e1:=h1▸e1
  cases e1
end
end
section
theorem Dl{heads:List (List Nat)}{f:List Nat}:f∈cM heads↔f∈heads:=by
 refine⟨sJ,λh=>?_⟩
 have key:∀(l:List (List Nat)),f∈l->∃k,k < l.length/\l.getD k []=f/\f∉l.take k:=by
  intro l
  induction l with
  | nil=>intro h;cases h
  | cons a r ih=>
   intro h
   by_cases e:a=f
   ·exact nN 0 (Nat.succ_pos _) (by refine rB e ?_;rfl) (of_decide_eq_true rfl)
   ·have hr:f∈r:=by
     rcases List.mem_cons.mp h with q | q
     ·exact absurd q.symm e
     ·exact q
    refine gV (ih hr) λk h1 h2 h3=>nN (k+1) (by simpa using h1) (by exact h2)<|ab List.take_succ_cons ?_;rw[List.mem_cons,not_or]
    exact⟨λq=>e q.symm,h3⟩
 refine gV (key heads h) λk h1 h2 h3=>List.mem_map.mpr ⟨k,List.mem_filter.mpr ⟨List.mem_range.mpr h1,?_⟩,h2⟩
 unfold lZ
 refine ab h2 ?_
 simpa using h3
theorem B9{heads:List (List Nat)}:(cM heads).Nodup:=by
 refine List.pairwise_map.mpr ((List.Pairwise.filter _ List.pairwise_lt_range:((List.range heads.length).filter (lZ heads)).Pairwise (· < ·)).imp_of_mem λ{a b} ha hb hab e=>?_)
 have jp:=(List.mem_filter.mp hb).2
 have ha':=List.mem_range.mp (List.mem_filter.mp ha).1
 unfold lZ at jp
 simp only[Bool.not_eq_true',decide_eq_false_iff_not]at jp
 refine jp<|rB e<|ab List.getD_eq_getElem?_getD<|ab (List.getElem?_eq_getElem ha') ?_
 have:(heads.take b)[a]? =some heads[a]:=by refine ab (List.getElem?_take_of_lt hab) ?_;rw[List.getElem?_eq_getElem ha']
 exact List.mem_of_getElem? this
theorem kE{ae:List (List Nat)}{f:List Nat}:f∈cM (bW ae)↔eR ae f:=by
 rw[Dl]
 delta bW eR
 rw[List.mem_flatMap]
 refine exists_congr λr=>and_congr_right λ_=>?_
 rw[List.mem_map]
 constructor
 ·rintro⟨k,hk,e⟩;exact aJ k (List.mem_range.mp hk) e.symm
 ·rintro⟨k,hk,e⟩;exact aJ k (List.mem_range.mpr hk) e.symm
theorem EE:∀{l:List Int},l≠[]->∃m,mo l=some m
 | [],h=>absurd rfl h
 | x::r,_=>⟨_,rfl⟩
theorem C0{a b:List Nat}{m:Nat}(h1:a.take m=b.take m)(ha:m < a.length)(hb:m < b.length)(h2:a.getD m 0=b.getD m 0):a.take (m+1)=b.take (m+1):=by
 refine ab List.take_add_one<|ab List.take_add_one<|ab h1 ?_
 rw[List.getD_eq_getElem?_getD,List.getD_eq_getElem?_getD,List.getElem?_eq_getElem ha,List.getElem?_eq_getElem hb]at h2
 refine ab (List.getElem?_eq_getElem ha)<|ab (List.getElem?_eq_getElem hb) ?_
 simp at h2
 exact ab h2 rfl
theorem vQ{a b:List Nat}{m k:Nat}(h:a.take m=b.take m)(hk:k < m):a.getD k 0=b.getD k 0:=by
 have:=congrArg (λl=>l[k]?) h
 simp only[List.getElem?_take_of_lt hk]at this
 refine ab List.getD_eq_getElem?_getD ?_;refine ab List.getD_eq_getElem?_getD ?_;rw[this]
noncomputable def mf(ae:List (List Nat))(f g:List Nat):Prop:=f=g.take f.length/\g.getD f.length 0∉cZ f ae
section
variable {ae:List (List Nat)} {g:List Nat}
theorem CZ(R:b7 ae)(h4:g.length=4)(hh:∃r∈ae,r=g.take r.length){f:List Nat}(hf:eR ae f):¬mf ae f g:=by
 rintro⟨h1,h2⟩
 obtain⟨r,hr,e⟩:=hh
 by_cases q:f.length < r.length
 ·refine h2 (n8.mpr ⟨r,hr,?_,?_⟩)
  ·refine ab e<|ab List.take_take<|ab (Nat.min_eq_left (Nat.le_of_lt ‹_›)) ?_;rw[<- h1]
  ·have e':r.take r.length=g.take r.length:=by exact ab List.take_length e
   exact vQ e' q
 ·refine ah hf λr0 hr0 ar=>?_;obtain⟨k,hk,e0⟩:=ar
  have hl:f.length=k:=by refine ab e0<|ab List.length_take ?_;lia
  have au:r≠r0:=λq2=>by rw[q2]at q;lia
  refine R.free r0 hr0 r hr au ?_
  have e1:r0.take r.length=f.take r.length:=by refine ab e0<|ab List.take_take ?_;rw[Nat.min_eq_left (by lia)]
  exact ab e1<|ab h1<|ab List.take_take<|ab (Nat.min_eq_left (Nat.not_lt.mp ‹_›)) e
theorem DV(R:b7 ae)(h4:g.length=4)(hh:¬∃r∈ae,r=g.take r.length){fs:List Nat}(hs:eR ae fs)(hsg:fs=g.take fs.length)(hmax:∀f,eR ae f->f=g.take f.length->f.length<=fs.length){f:List Nat}(hf:eR ae f):mf ae f g↔f=fs:=by
 have hs3:=(jW R hs).2
 constructor
 ·rintro⟨h1,h2⟩
  have hle:=hmax f hf h1
  by_cases q:f.length=fs.length
  ·refine ab h1<|ab q ?_;rw[<- hsg]
  ·exfalso
   refine ah (id hs) λr hr ar=>?_;obtain⟨k,hk,e⟩:=ar
   have hl:fs.length=k:=by refine ab e<|ab List.length_take ?_;lia
   refine h2 (n8.mpr ⟨r,hr,?_,?_⟩)
   ·have e1:r.take f.length=fs.take f.length:=by refine ab e<|ab List.take_take ?_;rw[Nat.min_eq_left (by lia)]
    exact ab e1<|ab hsg<|ab List.take_take<|ab (Nat.min_eq_left (by lia)) h1.symm
   ·have e2:r.take fs.length=g.take fs.length:=by refine ab hl<|rB e<|ab hsg ?_;rw[hl]
    exact vQ e2 (by exact Nat.lt_of_le_of_ne ‹_› ‹_›:f.length < fs.length)
 ·rintro rfl
  refine⟨hsg,λhm=>?_⟩
  refine gV (n8.mp hm) λr hr e1 e2=>?_
  have hlong:=wI R hs r hr e1
  have et:r.take (f.length+1)=g.take (f.length+1):=C0 (e1.trans hsg) hlong (by lia) e2
  by_cases q:r.length=f.length+1
  ·exact hh ⟨r,hr,by refine ab q<|rB et<|rB q ?_;rw[List.take_length]⟩
  ·skip
   have aV:(r.take (f.length+1)).length=f.length+1:=by refine ab List.length_take ?_;lia
   have:=hmax _ (⟨r,hr,f.length+1,by lia,rfl⟩:eR ae (r.take (f.length+1))) (by exact ab aV<|et)
   lia
theorem EA(R:b7 ae):eR ae []:=by
 exact ah R.two λr hr _=>aJ r hr ⟨0,List.length_pos_iff.mpr (R.ne r hr),rfl⟩
theorem Dy{n j:Nat}(hj:j < n){q:Nat->Bool}(h:∀k,k < n->(q k=true↔k=j)):(List.range n).filter q=[j]:=by
 induction n with
 | zero=>exact absurd ‹_› (Nat.not_lt_zero _)
 | succ n ih=>
  refine ab List.range_succ ?_;rw[List.filter_append]
  by_cases e:j=n
  ·subst e
   have h1:(List.range j).filter q=[]:=List.filter_eq_nil_iff.mpr λk hk=>by
    have hk':=List.mem_range.mp hk
    rw[h k (Nat.le_succ_of_le ‹_›)];exact Nat.ne_of_lt ‹_›
   refine ab h1<|ab List.filter_cons<|ab ((h j (Nat.le_refl _)).mpr rfl) ?_;rfl
  ·refine ab (ih (by lia) λk hk=>h k (Nat.le_succ_of_le ‹_›))<|ab List.filter_cons ?_
   have:q n=false:=by
    cases hq:q n with
    | false=>rfl
    | true=>exact absurd ((h n (Nat.le_refl _)).mp hq).symm e
   refine ab this ?_;rfl
end
open Classical in
noncomputable def k7(ae aR:List (List Nat))(g:List Nat):Int×List Nat:=
 if ∃r∈ae,r=g.take r.length then(1,[])else(0,(List.range aR.length).filter λk=>decide (mf ae (aR.getD k []) g))
theorem oj{g r:List Nat}:dy g r=true↔r=g.take r.length:=by unfold dy;exact beq_iff_eq
open Classical in
theorem K1{ae:List (List Nat)}(R:b7 ae){g:List Nat}(hg:bN g)(h4:g.length=4):mr g ae (cM (bW ae))=some (tD (k7 ae (cM (bW ae)) g)):=by
 have gd:=B9 (heads:=bW ae)
 have hiff:∀f,f∈cM (bW ae)↔eR ae f:=λf=>kE
 generalize cM (bW ae)=aR at gd hiff
 delta mr k7
 by_cases hh:∃r∈ae,r=g.take r.length
 ·rw[if_pos hh]
  have:(ae.filter (dy g)).isEmpty=false:=by
   refine ah hh λr hr e=>?_
   rw[List.isEmpty_eq_false_iff_exists_mem]
   exact⟨r,List.mem_filter.mpr ⟨hr,oj.mpr e⟩⟩
  refine ab this ?_;rfl
 ·refine ab (if_neg hh) ?_
  have:(ae.filter (dy g)).isEmpty=true:=by
   rw[List.isEmpty_iff,List.filter_eq_nil_iff]
   intro r hr e
   exact hh ⟨r,hr,oj.mp e⟩
  refine ab this<|ab (if_pos rfl) ?_
  have jn:(aR.filter (dy g)).map (λr=>((r.length:Nat):Int))≠[]:=by
   have:([]:List Nat)∈aR.filter (dy g):=List.mem_filter.mpr ⟨(hiff _).mpr (EA R),oj.mpr rfl⟩
   intro e
   rw[List.map_eq_nil_iff]at e
   replace this:=e▸this;cases this
  refine aW (EE jn) λm hm=>?_
  have aw:=qs hm
  have h2:=aw.2
  refine ah (List.mem_map.mp aw.1) λfs hfsm e=>?_
  have aw:=List.mem_filter.mp hfsm
  have cz:=aw.1
  have hs:=(hiff _).mp cz
  have hsg:=oj.mp aw.2
  have hmax:∀f,eR ae f->f=g.take f.length->f.length<=fs.length:=λf hf hfg=>by
   have:=h2 _ (List.mem_map.mpr ⟨f,List.mem_filter.mpr ⟨(hiff _).mpr hf,oj.mpr hfg⟩,rfl⟩)
   lia
  refine ab hm ?_;rw[Option.bind_some]
  refine ab (by lia:m.toNat=fs.length)<|rB hsg ?_
  obtain⟨j,hj⟩:∃j,aR.findIdx? (λr=>r==fs)=some j:=by
   cases hq:aR.findIdx? (λr=>r==fs)with
   | some j=>exact⟨j,rfl⟩
   | none=>
    have:=List.findIdx?_eq_none_iff.mp hq fs cz
    simp at this
  refine ab hj ?_;rw[Option.map_some]
  have aw:=List.findIdx?_eq_some_iff_getElem.mp hj
  have hjl:=aw.1
  have hje':aR[j]=fs:=by simpa using aw.2.1
  have hf1:(List.range aR.length).filter (λk=>decide (mf ae (aR.getD k []) g))=[j]:=by
   refine Dy hjl λk hk=>?_
   rw[decide_eq_true_iff,List.getD_eq_getElem?_getD,List.getElem?_eq_getElem hk]
   show mf ae aR[k] g↔_
   rw[DV R h4 hh hs hsg hmax ((hiff _).mp (List.getElem_mem hk))]
   constructor
   ·intro e2
    exact(List.getElem_inj gd).mp (e2.trans hje'.symm)
   ·rintro rfl;exact hje'
  refine ab hf1 ?_
  rfl
end
section
theorem zk(a b:List Nat):Txt.startswith (S a) (S b)=true↔bU b a:=by
 delta Txt.startswith Builtin.Str.subAt
 have e1:(S a).length=a.length:=by simp[Str.length]
 refine ab e1<|ab (by simp[Str.length]:(S b).length=b.length) ?_;rw[Nat.zero_add,Bool.and_eq_true,decide_eq_true_iff,beq_iff_eq]
 have e3:(S a).cps.extract 0 b.length=(S b).cps↔a.take b.length=b:=by
  constructor
  ·intro h
   simpa[List.extract_eq_take_drop]using(congrArg Array.toList h)
  ·intro h
   apply Array.toList_inj.mp
   simpa[List.extract_eq_take_drop]using h
 rw[e3]
 constructor
 ·rintro⟨_,h⟩
  exact⟨a.drop b.length,by conv=>lhs;rw[<- List.take_append_drop b.length a];rw[h]⟩
 ·rintro⟨t,rfl⟩
  exact⟨by simp,by simp⟩
section
variable (p:UInt8×UInt8) (ae:List (List Nat))
noncomputable def modsOf:List (List Nat):=ae.map (eG p)
noncomputable def fF:Str->Bool:=fZ ((modsOf p ae).map S)
open Classical in
noncomputable def dM(k:Str):Int:=if k=iZ then 1 else if mG p ae k.cps.toList then 1 else 0
noncomputable def df:List (List Nat):=cM (bW ae)
noncomputable def kt:List (List Nat):=i4 ae (d6 (df ae))
noncomputable def kq:List (List Nat):=(kt ae).map (fh (bX p) 46)
noncomputable def ib:List (List Nat):=pZ (bX p) ae (d6 (df ae))
noncomputable def eH:List Str:=iZ::(kq p ae++ib p ae).map S
noncomputable def iH:List (List bZ):=(df ae).map (readOf p ae)
end
section
variable {p:UInt8×UInt8} {ae:List (List Nat)}
theorem mh{k:Str}:fF p ae k=true↔∃r∈ae,k=S (eG p r):=by
 delta fF fZ modsOf
 rw[decide_eq_true_iff,List.map_map,List.mem_map]
 constructor
 ·rintro⟨r,hr,e⟩;exact aJ r hr e.symm
 ·rintro⟨r,hr,e⟩;exact aJ r hr e.symm
theorem Ir(R:b7 ae){r:List Nat}(hr:r∈ae):(eG p r).length<=7:=by
 unfold eG
 rw[oM,List.length_map]
 have:=(R.ok r hr).1
 omega
theorem La{nm:List Nat}(au:S nm≠iZ)(hd:S nm∈eH p ae)(hl:nm.length<=1000):mw (fF p ae) (eH p ae) (dM p ae) (S nm):=by
 have ha:dM p ae (S nm)=(open Classical in if mG p ae nm then 1 else 0):=by
  unfold dM
  refine ab (if_neg au) ?_;rw[(ja nm:(S nm).cps.toList=nm)]
 refine AW hd (by exact hl) (λht=>?_) (λj hj hs=>?_) (λhf hn=>?_)
 ·refine ah (mh.mp ht) λr hr e=>ab ha ?_;rw[if_pos ⟨r,hr,.inl (o4 e).symm⟩]
 ·obtain⟨r,hr,rfl⟩:=mh.mp hj
  refine ab ha ?_;rw[if_pos ⟨r,hr,.inr ((zk _ _).mp hs)⟩]
 ·refine ab ha ?_;rw[if_neg]
  rintro⟨r,hr,h | h⟩
  ·have:fF p ae (S nm)=true:=mh.mpr ⟨r,hr,by exact ab h rfl⟩
   replace this:=hf▸this;exact fT this
  ·have:=hn (S (eG p r)) (mh.mpr ⟨r,hr,rfl⟩)
   rw[ja,(zk _ _).mpr h]at this;exact tF this
theorem Nf:iZ.cps.toList=[60,115,116,114,105,110,103,62]:=by decide+kernel
theorem ne_str{nm:List Nat}(h:nm≠[60,115,116,114,105,110,103,62]):S nm≠iZ:=λe=>h (by
 exact(congrArg (λx:Str=>x.cps.toList) e))
theorem tG(hp:p∈cx){g:List Nat}(hg:bN g)(h4:g.length=4)(sep:Nat):(fh (bX p) sep g).length=7:=by
 rw[oA hp hg,oM,List.length_map,h4]
theorem Hi(R:b7 ae){g:List Nat}(hg:g∈d6 (df ae)):bN g/\g.length=4:=by
 exact ah (List.mem_map.mp hg) λf hf am=>rB am<|te (jW R (kE.mp hf)).1
theorem wm(hp:p∈cx)(R:b7 ae){nm:List Nat}(h:nm∈ib p ae):nm.length<=8/\nm≠[60,115,116,114,105,110,103,62]/\¬mG p ae nm/\∀f,eR ae f->eT (readOf p ae f) nm=false:=by
 refine Or.elim (List.mem_append.mp h) (λh=>?_) (λh=>?_)
 ·obtain⟨r,hr,rfl⟩:=List.mem_map.mp h
  refine cR (wd hp (R.ok r hr) (R.ne r hr)) λl z e hd=>?_
  have hr4:=(R.ok r hr).1
  have aV:r.length=l.length+1:=by refine ab e ?_;simp
  have h8:(gM r (bX p)).length=8:=by refine ab hd ?_;rw[yX,List.length_map];lia
  refine lj (Nat.le_of_eq ‹_›) (λe2=>?_) (CB hp R hr) (λf hf=>?_)
  ·replace e2:=hd▸e2
   cases l with
   | nil=>
    obtain⟨t,et⟩:=yW (bH p z) (4 - r.length)
    rw[List.map_nil,et]at e2
    have hz:z < 64:=(R.ok r hr).2 z (by refine ab e ?_;simp)
    simp only[List.cons.injEq]at e2
    exact(jU hp hz).2.2.1 e2.1
   | cons x l'=>
    rw[List.map_cons,tQ]at e2
    have hx:x < 64:=(R.ok r hr).2 x (by refine ab e ?_;simp)
    simp only[List.cons.injEq]at e2
    exact(jU hp hx).2.2.1 e2.1
  ·skip
   delta eT readOf
   rw[List.length_map,(th (p:=p) (ae:=ae) (jW R hf).2),h8];rfl
 ·obtain⟨g,hg,rfl⟩:=List.mem_map.mp h
  refine bR (Hi R hg) λg1 g2=>?_
  have h7:=tG hp g1 g2 65
  refine lj (by lia) (λe=>?_) (GE hp R g1 g2) (λf hf=>?_)
  ·rw[e]at h7;exact nomatch h7
  ·delta readOf oG
   rw[wT,readOf_eq,oA hp g1]
   refine bR (jW R hf) λhfo hf3=>?_
   match g,g2 with
   | [a,b,c,d],_=>
    refine ab List.map_cons<|ab List.map_cons ?_;rw[qt]
    match f with
    | []=>
     refine(?_:gU (km ((true,dc ((cZ [] ae).map (bH p)))::(true,[])::List.replicate 2 (true,[]))) _=false)
     rw[km,lU,lU]
     refine ab (by rfl:jP (false,[46]) 65=false) ?_;rw[Bool.false_and,Bool.and_false]
    | [x]=>
     refine(?_:gU (km ((false,[bH p x])::(true,_)::_)) _=false)
     rw[km,lU,lU]
     refine ab (by rfl:jP (false,[46]) 65=false) ?_;rw[Bool.false_and,Bool.and_false]
    | x::y::f'=>
     refine ab List.map_cons<|ab List.map_cons<|ab List.cons_append<|ab List.cons_append ?_;rw[km,lU,lU]
     refine ab (by rfl:jP (false,[46]) 65=false) ?_;rw[Bool.false_and,Bool.and_false]
theorem wU{nm:List Nat}(q:List Nat->Bool)(h:∀f,f∈df ae->eT (readOf p ae f) nm=q f):iY (iH p ae) nm=(List.range (df ae).length).filter λk=>q ((df ae).getD k []):=by
 delta iY iH
 rw[List.length_map]
 apply List.filter_congr
 intro k hk
 have hk':=List.mem_range.mp hk
 have e1:(List.map (readOf p ae) (df ae)).getD k []=readOf p ae (df ae)[k]:=by
  refine ab List.getD_eq_getElem?_getD<|ab List.getElem?_map<|ab (List.getElem?_eq_getElem hk') ?_;rfl
 have e2:(df ae).getD k []=(df ae)[k]:=by
  refine ab List.getD_eq_getElem?_getD<|ab (List.getElem?_eq_getElem hk') ?_;rfl
 exact ab e1<|ab e2<|h _ (List.getElem_mem hk')
theorem o0(R:b7 ae){g:List Nat}(hg:g∈kt ae):bN g/\g.length=4:=yS R hg
open Classical in
theorem Fq(hp:p∈cx)(R:b7 ae):(kq p ae++ib p ae).map (λnm=>(dM p ae (S nm),iY (iH p ae) nm))=(kt ae).map (k7 ae (df ae))++(ib p ae).map λ_=>(0,[]):=by
 refine ab List.map_append ?_
 congr 1
 ·unfold kq
  refine ab List.map_map ?_
  apply List.map_congr_left
  intro g hg
  have aw:=o0 R hg
  have g1:=aw.1
  have g2:=aw.2
  have h7:=tG hp g1 g2 46
  have au:S (fh (bX p) 46 g)≠iZ:=ne_str λe=>by rw[e]at h7;exact nomatch h7
  have hti:∀f,f∈df ae->(eT (readOf p ae f) (fh (bX p) 46 g)=true↔mf ae f g):=λf hf=>DW hp R (kE.mp hf) g1 g2
  refine(?_:(dM p ae (S (fh (bX p) 46 g)),iY (iH p ae) (fh (bX p) 46 g))=_)
  delta dM k7
  rw[if_neg au,ja,wU (λf=>decide (mf ae f g)) λf hf=>by
   rw[Bool.eq_iff_iff,hti f hf,decide_eq_true_iff]]
  by_cases hh:∃r∈ae,r=g.take r.length
  ·refine ab (if_pos ((ya hp R g1 g2).mpr hh))<|ab (if_pos hh) ?_
   congr 1
   rw[List.filter_eq_nil_iff]
   intro k hk
   have hk':=List.mem_range.mp hk
   rw[decide_eq_true_iff,List.getD_eq_getElem?_getD,List.getElem?_eq_getElem hk']
   exact CZ R g2 hh (kE.mp (List.getElem_mem hk'))
  ·refine ab (if_neg (λh=>hh ((ya hp R g1 g2).mp h))) ?_;rw[if_neg hh]
 ·apply List.map_congr_left
  intro nm hnm
  have aw:=wm hp R hnm
  have h1:=aw.1
  have h2:=aw.2.1
  have h3:=aw.2.2.1
  have h4:=aw.2.2.2
  have hk:iY (iH p ae) nm=[]:=by
   exact ab (wU (λ_=>false) λf hf=>h4 f (kE.mp hf))<|List.filter_eq_nil_iff.mpr λ_ _=>by decide
  refine ab hk ?_
  unfold dM
  refine ab (if_neg (ne_str h2)) ?_;rw[ja,if_neg h3]
theorem Hc(hp:p∈cx)(R:b7 ae):∀nm∈kq p ae++ib p ae,nm.length<=1000/\mw (fF p ae) (eH p ae) (dM p ae) (S nm):=by
 intro nm hnm
 have hd:S nm∈eH p ae:=List.mem_cons_of_mem _ (List.mem_map.mpr ⟨nm,hnm,rfl⟩)
 have key:nm.length<=8/\nm≠[60,115,116,114,105,110,103,62]:=by
  rcases List.mem_append.mp hnm with h | h
  ·refine ah (List.mem_map.mp h) λg hg am=>rB am<|bR (o0 R hg) λg1 g2=>?_
   have h7:=tG hp g1 g2 46
   exact⟨by lia,λe=>by rw[e]at h7;exact nomatch h7⟩
  ·exact bB (wm hp R h) λh1 h2 _=>⟨h1,h2⟩
 exact⟨by lia,La (ne_str key.2) hd (by lia)⟩
theorem y9(R:b7 ae):(df ae).length<=28/\(kt ae).length<=49/\(ib p ae).length<=35:=by
 have h1:=qc R
 have h2:(df ae).length<=(bW ae).length:=sL
 have h4:=R.len
 refine dQ (Nat.le_trans ‹_› ‹_›) (xw R) ?_
 delta ib pZ d6
 refine ab List.length_append ?_;rw[List.length_map,List.length_map,List.length_map]
 lia
theorem Ld(hp:p∈cx)(R:b7 ae):o7 (fF p ae) (eH p ae) (dM p ae):=by
 refine bB (y9 (p:=p) R) λh1 h2 h3=>⟨?_,λj hj=>?_,?_⟩
 ·delta eH kq
  refine ab List.length_cons ?_;rw[List.length_map,List.length_append,List.length_map];lia
 ·refine ah (mh.mp hj) λr hr am=>ab am ?_
  have:=Ir (p:=p) R hr
  exact(by exact Nat.le_trans ‹_› (Nat.le_add_left _ _):(eG p r).length<=1000)
 ·refine ah R.two λr hr ar=>ah ar λo ho au=>mA (S (eG p r)) (S (eG p o)) (mh.mpr ⟨r,hr,rfl⟩) (mh.mpr ⟨o,ho,rfl⟩) (λe=>au ?_)
  exact(oa hp (R.ok r hr).2 (R.ok o ho).2 (zE 46 (λe=>R.ne r hr (List.map_eq_nil_iff.mp e)) (λe=>R.ne o ho (List.map_eq_nil_iff.mp e)) (o4 e))).symm
theorem Ko:ii (eH p ae) (dM p ae) [(iZ,1)]:=by
 refine⟨by trivial,λq hq=>?_⟩
 rw[List.mem_singleton]at hq
 refine ab hq<|⟨List.mem_cons_self,?_⟩
 dsimp only[dM]
 exact ab (if_pos rfl) rfl
end
end
section
noncomputable def qR:E:=.comp (.meth (.str [46]) .join [(.call "_law_signs" [(.var "row"),(.var "other")])]) "row" .no (.var "rows") .absent ["other"]
noncomputable def JQ:St:=.assign "read" (.comp uD "front" .no (.var "fronts") .absent ["rows","other"])
inductive zV(sc:Scope):Stmt->Prop
 | mk {y w1 g w2 arg w3 w4} (hk:(nm "reader" y&&fj sc y&&nm "_Ignore" g&&kr sc g&&aN sc qR arg&&!bP arg)=true):zV sc (.Assign [.Name y w1] (.Call (.Name g w2) [arg] [] w3) w4)
noncomputable def zr(sc:Scope):(e:Stmt)->{b:Bool // b=true->zV sc e}
 | .Assign [.Name _ _] (.Call (.Name _ _) [_] [] _) _=>⟨_,.mk⟩
 | _=>⟨false,nofun⟩
noncomputable def Ab(sc:Scope)(e:Stmt):Bool:=(zr sc e).1
inductive zX(sc:Scope):Stmt->Prop
 | mk {y w1 z w2 k w3 w4 w5 w6 w7} (hk:(nm "drawn" y&&l6 sc y&&nm "script" z&&k==3)=true):zX sc (.Assign [.Name y w1] (.Subscript (.Name z w2) (.Slice none (some (.Constant (.int k) w3 w4)) none w5) w6) w7)
noncomputable def zu(sc:Scope):(e:Stmt)->{b:Bool // b=true->zX sc e}
 | .Assign [.Name _ _] (.Subscript (.Name _ _) (.Slice none (some (.Constant (.int _) _ _)) none _) _) _=>⟨_,.mk⟩
 | _=>⟨false,nofun⟩
noncomputable def Al(sc:Scope)(e:Stmt):Bool:=(zu sc e).1
inductive zW(sc:Scope):List Stmt->Prop
 | mk {a0 a1 a2 a3 a4 a5 a6 a7 a8 a9 b r t d e} (hk:(Al sc a0&&dz sc t9 [a1,a2,a3,a4,a5,a6,a7,a8,a9]&&Ab sc b&&jL sc JQ r&&jL sc (.assign "told" qP) t&&jL sc (.assign "due" rC) d&&Aa sc e)=true):zW sc ([a0,a1,a2,a3,a4,a5,a6,a7,a8,a9,b,r,t,d,e])
noncomputable def zt(sc:Scope):(e:List Stmt)->{b:Bool // b=true->zW sc e}
 | [_,_,_,_,_,_,_,_,_,_,_,_,_,_,_]=>⟨_,.mk⟩
 | _=>⟨false,nofun⟩
noncomputable def LS(sc:Scope)(e:List Stmt):Bool:=(zt sc e).1
theorem EH:LS (cU (aA 37)) (bu (aA 37))=true:=by decide+kernel
theorem BR(M:Model)(Z:PySem.Ctx)(aa:Env)(l2:List Stmt)(Q:Flow->Pos->Shared->Prop)(E:Value->Pos->Shared->Prop)(l1:List Stmt):∀(p:Pos) (s:Shared),Sem.wp M Z (execs l1 aa) (λf p' s'=>match f with | .next=>Sem.wp M Z (execs l2 aa) Q E p' s' | f=>Q f p' s') E p s->Sem.wp M Z (execs (l1++l2) aa) Q E p s:=by
 induction l1 with
 | nil=>
  intro p s h
  exact h
 | cons st l1 ih=>
  intro p s h
  refine ab List.cons_append ?_
  rw[execs_cons,Sem.wp_bind']at h⊢
  refine Sem.wp_mono M Z _ (λf p' s' h'=>?_) (λ_ _ _ h'=>h') _ _ h
  cases f with
  | next=>exact ih p' s' h'
  | _=>exact h'
theorem ET{M:Model}{A:Around}{E:Value->Shared->Prop}{aa:Env}{l1 l2:List Stmt}{s:Shared}{Q:Flow->Shared->Prop}(h:wpAny M A (execs l1 aa) (λf s'=>match f with | .next=>wpAny M A (execs l2 aa) Q E s' | f=>Q f s') E s):wpAny M A (execs (l1++l2) aa) Q E s:=λZ p hΓ=>by
 refine BR M Z aa l2 _ _ l1 p s (Sem.wp_mono M Z _ (λf p' s' h'=>?_) (λ_ _ _ h'=>h') _ _ (h Z p hΓ))
 cases f with
 | next=>exact h' Z p' hΓ
 | _=>exact h'
section
variable {c:Cx} {n:Nat} {aa:Env} {Z:Ctx}
theorem wK{A:Around}{s:Shared}{ow:Ow}{af:Ctx}{l1 l2:List Stmt}{Q:Flow->Shared->Prop}{E:Value->Shared->Prop}(h:bS c n aa Z l1 λo=>o=.next af)(rm:bh n A)(I:Inv c aa Z ow s)(k:∀s' aH,Inv c aa af aH s'->wpAny (model pg c.w) A (execs l2 aa) Q E s'):wpAny (model pg c.w) A (execs (l1++l2) aa) Q E s:=by
 refine ET (h.run A s _ E ow rm I λf s' o ho ok=>?_)
 subst ho
 cases f<;>first | exact ok.elim | skip
 exact aW ok λaH I'=>k s' aH I'
theorem td{A:Around}{s:Shared}{ow:Ow}{af:Ctx}{st:Stmt}{l2:List Stmt}{Q:Flow->Shared->Prop}{E:Value->Shared->Prop}(h:bY c n aa Z st λo=>o=.next af)(rm:bh n A)(I:Inv c aa Z ow s)(k:∀s' aH,Inv c aa af aH s'->wpAny (model pg c.w) A (execs l2 aa) Q E s'):wpAny (model pg c.w) A (execs (st::l2) aa) Q E s:=
 wK (l1:=[st]) (kH h) rm I k
theorem Cb{value:Expr}{lo hi:Option Expr}{p pos:Pos}{ds:List D}{l h:Option Int}(h1:Ev c n aa Z value (.d (.raw ds)))(h2:Pt c n aa Z lo l)(h3:Pt c n aa Z hi h)(hz:ds.length<=1000000):
  Ev c n aa Z (.Subscript value (.Slice lo hi none p) pos) (.d (.list (cut ds l h))):=by
 refine tM h1 h2 h3 λA s Q E ow va vl vh rm I ra pl ph k=>ag.Mw ra λa vs ho la r=>?_
 have st:=sy (s:=s) I.ok {cls:=.type "slice",data:=.fields #[vl,vh,.none]}
 have ji:=la.push {cls:=.type "slice",data:=.fields #[vl,vh,.none]}
 have hl:=r.length
 refine lu (T:="list") ji.typeIs list_getitem_lookup (wpAny_getItem_list_slice ji (Heap.IsSliceOf.new ..) pl.qI ph.qI .none (by trivial) ?_ (by refine ab List.size_toArray<|ab sizeLine_eq ?_;lia)) (.inr rfl)
 have r':aq (s.heap.push {cls:=.type "slice",data:=.fields #[vl,vh,.none]}) (av c ow) (cut vs l h) (cut ds l h):=by
  unfold cut
  exact ab hl<|((r.mono λb ob xs j e _ hb=>⟨Heap.get?_push_of_some _ e,hb⟩).drop _).take _
 refine k _ _ (om (I.step st) r' ?_) (st.trans (.push I.ok _ _))
 rw[slicePick_plain]
 unfold cut
 rfl
theorem D1{s:Shared}{ow:Ow}{x:String}{v:Value}{d:D}{A:Around}{Q:Unit->Shared->Prop}{E:Value->Shared->Prop}(I:Inv c aa Z ow s)(hx:aa.kindOf (Str.ofString x)=some .local)(hl:ag s.heap (av c ow) v d)
  (h:∀h',Inv c aa (upd Z x (.d d)) ow {s with heap:=h',toks:=s.toks+1}->Q () {s with heap:=h',toks:=s.toks+1}):wpAny (model pg c.w) A (storeName aa (Str.ofString x) v) Q E s:=by
 refine ah I.frm.ns λm hm hv=>wpAny_storeName_local hx hm (λh' hn hs=>h h' ⟨I.ok,I.oin,oi I.ok I.bs hs I.frm.loc I.frm.locD I.frm.pL (λo e=>qr hm e) _,?_⟩) (by refine ab I.frm.kind ?_;rfl)
 have nq:∀o xs k,s.heap.get? aa.locals=some o->o.data≠.seq xs k:=λo xs k e=>mS hm e
 have na:∀o b,s.heap.get? aa.locals=some o->o≠d9 b:=λo b e=>tE hm e
 refine⟨I.frm.kind,I.frm.glob,I.frm.bins,I.frm.loc,I.frm.locD,⟨_,hn,λy l' e=>?_⟩,λy cl h1 h2=>?_,I.frm.cD,I.frm.cinj,λy a e=>?_,I.frm.oinj,I.frm.pL,I.frm.pC,I.frm.pO,λp hp=>(I.frm.held p hp).mono (lq hs (λ_ q=>q) λ_=>nq)⟩
 ·rw[ai]at e
  by_cases ci:x=y
  ·subst ci
   replace e:=(if_pos rfl)▸e;exact aC e<|aJ v (.inl ⟨hx,by simp⟩) (ig.sameBut (l:=.d d) hs nq na hl)
  ·rw[if_neg ci]at e
   refine ah (hv y l' e) λv' h1 h2=>aJ v' ?_ (h2.sameBut hs nq na)
   rcases h1 with⟨k1,k2⟩ | ⟨k1,cl,k2,k3⟩ | k1
   ·refine .inl ⟨k1,?_⟩
    refine(?_:(if Str.ofString y=Str.ofString x then some v else m (Str.ofString y))=some v')
    exact ab (if_neg (λq=>ci (pN q).symm)) k2
   ·exact .inr (.inl ⟨k1,cl,k2,k3.sameBut hs (mJ hm k3)⟩)
   ·exact .inr (.inr k1)
 ·obtain⟨v',h4⟩:=I.frm.cnew y cl h1 h2
  exact nP v' (h4.sameBut hs (mJ hm h4))
 ·refine bB (I.frm.onew y a e) λh1 h2 ar=>aW ar λxs h3=>?_
  exact dQ h1 h2 ⟨xs,jT hs (lB h3 nq) h3⟩
noncomputable def fW(c:Cx):Cx:={c with tz:=True,t₀:=1}
theorem Inv.tz{ow:Ow}{s:Shared}(I:Inv c aa Z ow s)(h:1<=s.toks):Inv (fW c) aa Z ow s:=by
 refine ah I.frm.ns λm hm hv=>⟨⟨I.ok.vd,I.ok.vsa,I.ok.vseq,I.ok.vco,I.ok.jin,I.ok.jk,I.ok.tab,I.ok.tabJ,I.ok.tabK,I.ok.sn,I.ok.pv,λ_=>Nat.one_pos⟩,I.oin,⟨I.bs.kp,I.bs.pins,I.bs.sta,I.bs.j,I.bs.os,I.bs.gens,h⟩,
  I.frm.kind,I.frm.glob,I.frm.bins,I.frm.loc,I.frm.locD,⟨m,hm,λx l e=>?_⟩,I.frm.cnew,I.frm.cD,I.frm.cinj,I.frm.onew,I.frm.oinj,I.frm.pL,I.frm.pC,I.frm.pO,I.frm.held⟩
 exact ah (hv x l e) λv h1 h2=>aJ v h1 (by cases l<;>exact h2)
theorem JI{A:Around}{s:Shared}{ow:Ow}{st:Stmt}{sc:Scope}{ds:List D}{l2:List Stmt}{Q:Flow->Shared->Prop}{E:Value->Shared->Prop}(eo:bI c sc aa)(hc:Al sc st=true)(f1:find Z "script"=some (.d (.raw ds)))(hz:ds.length<=1000)(rm:bh n A)(I:Inv c aa Z ow s)
  (k:∀s',Inv (fW c) aa (upd Z "drawn" (.d (.list (ds.take 3)))) ow s'->wpAny (model pg c.w) A (execs l2 aa) Q E s'):wpAny (model pg c.w) A (execs (st::l2) aa) Q E s:=by
 have shq:=(zu _ _).2 hc;clear hc
 cases shq with
 | @mk y yp z zp kk kc kp slp sp ap hc=>
  simp only[Bool.and_eq_true,beq_iff_eq]at hc
  obtain⟨⟨⟨h1,h2⟩,h3⟩,h4⟩:=hc
  have e1:=lY h1
  have e3:=lY h3
  subst e1 e3 h4
  refine wpAny_execs_cons (wpAny_Assign_Name ((Cb (n:=n) (bK f1 (by unfold eu;decide+kernel)) t5 (lz gP) (by lia)).run A s _ E ow rm I λv s1 rv al=>D1 (I.step al) (eo.kind (iW h2)) rv λh' I'=>?_) (by with_unfolding_all rfl))
  have e:cut ds none (some 3)=ds.take 3:=qm ds 3
  rw[e]at I'
  exact k _ (I'.tz (Nat.le_add_left ..))
end
end
section
theorem JD{p:UInt8×UInt8}{ae:List (List Nat)}{Z:Ctx}(R:b7 ae)(f1:find Z "rows"=some (.d (bk ae)))(f2:find Z "other"=some (.d (pairD p))):pe (KP p.1 p.2) Z qR=some (.d (hU (modsOf p ae))):=by
 delta qR modsOf
 refine(?_:_=some (LV.d (.list (List.map sd _))))
 refine ab List.map_map ?_
 have hl:=R.len
 refine gH ae aj (λr=>sd (eG p r)) (dT (v_var f1)) (cs:=[("other",pairD p)]) (by simp[fo,f2]) (Nat.le_trans ‹_› (Nat.le_add_left _ _)) λr hr=>?_
 have h4:=(R.ok r hr).1
 refine jv bc (ay (fc (ds:=[aj r,pairD p]) (ay (v_var rfl) (ay (v_var rfl) aO)) rfl (ut (R.ok r hr))) aO) ?_
 have e:eG p r=bT [46] ((r.map (bH p)).map λx=>[x]):=rfl
 refine qu (xs:=(r.map (bH p)).map λx=>[x]) ?_ (by trivial) (λx hx=>?_) (by rw[List.length_map,List.length_map];exact Nat.le_trans ‹_› (Nat.le_add_left _ _))
 ·skip
  refine ab List.map_map<|ab List.map_map ?_;rfl
 ·refine ah (List.mem_map.mp hx) λy _ am=>rB am ?_
  simp
theorem IA(P:Params):keepIn (Mine.K P) (.ref 171)=true:=by rfl
section
variable {c:Cx} {n:Nat} {aa:Env} {Z:Ctx}
theorem Inv.Mx{ow:Ow}{s:Shared}(I:Inv c aa Z ow s){fp:List Addr}(hf:∀b∈fp,¬c.V b/\b≠aa.locals/\(∀(x:Str) cl,aa.cells.lookup x=some cl->c.h₀.objs.size<=cl->cl≠b)/\∀x,ow x≠some b):Inv (pinAt c s.heap fp []) aa Z ow s:=by
 have du:∀a,(pinAt c s.heap fp []).pin a=if a∈fp then s.heap.get? a else c.pin a:=λa=>rfl
 refine ah I.frm.ns λm hm hv=>⟨⟨I.ok.vd,I.ok.vsa,I.ok.vseq,I.ok.vco,I.ok.jin,I.ok.jk,I.ok.tab,I.ok.tabJ,I.ok.tabK,I.ok.sn,λa o e=>?_,I.ok.tp⟩,I.oin,⟨I.bs.kp,λa o e=>?_,I.bs.sta,I.bs.j,I.bs.os,I.bs.gens,I.bs.tk⟩,
  I.frm.kind,I.frm.glob,I.frm.bins,I.frm.loc,I.frm.locD,⟨m,hm,λx l e=>?_⟩,I.frm.cnew,I.frm.cD,I.frm.cinj,I.frm.onew,I.frm.oinj,?_,λx cl h1 h2=>?_,λx a e=>?_,I.frm.held⟩
 ·rw[du]at e
  split at e
  ·rename_i h;exact(hf a h).1
  ·exact I.ok.pv a o e
 ·rw[du]at e
  split at e
  ·exact e
  ·exact I.bs.pins a o e
 ·exact ah (hv x l e) λv h1 h2=>aJ v h1 (by cases l<;>exact h2)
 ·rw[du,if_neg (λq=>(hf _ q).2.1 rfl)];exact I.frm.pL
 ·rw[du,if_neg (λq=>(hf _ q).2.2.1 x cl h1 h2 rfl)];exact I.frm.pC x cl h1 h2
 ·rw[du,if_neg (λq=>(hf _ q).2.2.2 x e)];exact I.frm.pO x a e
noncomputable def cE(i:fH):List Addr:=[i.x,i.dx,i.sa,i.la,i.ma]
theorem jb.keeps{w:World}{i:fH}{T:Str->Bool}{m:Nat}{cc:List (Str×Int)}{h h':Heap}(X:jb w i T m cc h)(k:∀a∈cE i,∀o,h.get? a=some o->h'.get? a=some o):jb w i T m cc h':=by
 refine nM X.dx λes kk h1 h2 h3 h4 h5=>bR X.ma λlo ar=>ah ar λkvs hd hf=>⟨k _ (by simp[cE]) _ X.x,⟨es,kk,k _ (by simp[cE]) _ h1,h2,h3,h4,h5⟩,X.set.keeps (k _ (by simp[cE])),?_,lo,kvs,?_,hf⟩
 ·exact aW X.la λj e=>⟨j,k _ (by simp[cE]) _ e⟩
 ·exact fz hd λo iN ep ho r=>AU o iN ep (k _ (by simp[cE]) _ ho) r
theorem D3{A:Around}{s:Shared}{ow:Ow}{st:Stmt}{sc:Scope}{l2:List Stmt}{p:UInt8×UInt8}{ae:List (List Nat)}{Q:Flow->Shared->Prop}{E:Value->Shared->Prop}(tz:c.tz)(eo:bI c sc aa)(hc:Ab sc st=true)(hp:p∈cx)(R:b7 ae)
  (f1:find Z "rows"=some (.d (bk ae))) (f2:find Z "other"=some (.d (pairD p))) (rm:bh 5 A) (I:Inv c aa Z ow s)
  (k:∀i (s0 s':Shared),Inv c aa Z ow s0->Made c.w s0 (modsOf p ae) i s'.heap->Inv c aa (upd Z "reader" (.d (.ref i.x))) ow s'->wpAny (model pg c.w) A (execs l2 aa) Q E s'):wpAny (model pg c.w) A (execs (st::l2) aa) Q E s:=by
 have shq:=(zr _ _).2 hc;clear hc
 cases shq with
 | @mk y yp g gp arg cp ap hc=>
  simp only[Bool.and_eq_true,Bool.not_eq_true']at hc
  obtain⟨⟨⟨⟨⟨h1,h2⟩,h3⟩,h4⟩,h5⟩,h6⟩:=hc
  have e1:=lY h1
  have e3:=lY h3
  subst e1 e3
  have dt:p.1.toNat < 128/\p.2.toNat < 128:=by
   have:∀p∈cx,p.1.toNat < 128/\p.2.toNat < 128:=by exact of_decide_eq_true rfl
   exact this p hp
  have hml:(modsOf p ae).length<=1000:=by unfold modsOf;rw[List.length_map];have:=R.len;exact Nat.le_trans ‹_› (Nat.le_add_left _ _)
  have hmn:modsOf p ae≠[]:=λe=>by
   refine ah R.two λr hr _=>?_
   unfold modsOf at e
   rw[List.map_eq_nil_iff]at e
   replace hr:=e▸hr;cases hr
  have hplain:(backTo cp (starEach [arg] aa)).any (·.1)=false:=by refine ab (eD h6) ?_;rfl
  refine wpAny_execs_cons (wpAny_Assign_Name (Call_Name rfl (iU I (ej (v:=.ref 171) (by decide+kernel)) (eo.kind (qv h4)) (by decide+kernel) (callWith_of (P:=λh=>(Mine.K c.w.params).In h) (by refine ab hplain ?_;rfl) (λh hX=>keeps_K (IA _) h hX)
   (gi hplain (gq (bG 4 (KP p.1 p.2) qR sc arg aa c Z _ (Ar dt.1 dt.2 c tz) eo.c h5 (JD R f1 f2):Ev c 4 aa Z arg (.d (hU (modsOf p ae)))) gt (eD h6) A s _ E ow (rm.less (Nat.le_succ _)) I λvs s1 rs al=>?_))))) (by with_unfolding_all rfl))
  have I1:=I.step al
  refine⟨I1.bs.sta.k,?_⟩
  refine aT.bn rs λ_ _ r1 ao=>aT.bO ao<|ag.listE r1 λl vs ho la rr=>E9 (n:=0) (rm.less (Nat.succ_pos _)) I1 (.list ho la rr) hmn hml λi s2 aG M=>?_
  have I2:=I1.step aG
  refine ah (id I1.frm.ns) λm1 hm1 _=>?_
  have lL:aa.locals < s1.heap.objs.size:=by exact fz hm1 λo _ _ ho _=>Heap.lt_size ho
  have ge:∀b∈cE i,s1.heap.objs.size<=b:=λb hb=>by
   simp only[cE,List.mem_cons,List.not_mem_nil,or_false]at hb
   rcases hb with rfl | rfl | rfl | rfl | rfl
   ·exact M.x
   ·exact M.dx
   ·exact M.sa
   ·exact M.la
   ·exact M.ma
  have hpin:∀b∈cE i,b∈cE i/\b≠aa.locals/\(∀(x:Str) cl,aa.cells.lookup x=some cl->c.h₀.objs.size<=cl->cl≠b)/\∀x,ow x≠some b:=λb hb=>by
   have gf:=ge b hb
   refine lj hb (Nat.ne_of_gt (Nat.lt_of_lt_of_le lL gf)) (λx cl h1 h2=>?_) (λx e=>?_)
   ·exact cR (I1.frm.cnew x cl h1 h2) λv o ho _=>Nat.ne_of_lt (Nat.lt_of_lt_of_le (Heap.lt_size ho) gf)
   ·refine bB (I1.frm.onew x b e) λ_ _ ar=>cY ar λxs j ho=>?_
    exact Nat.not_lt.mpr gf (Heap.lt_size ho)
  have hV:∀b∈cE i,¬c.V b:=λb hb v=>gr I1.ok I1.bs (ge b hb) (I.ok.vd _ v)
  exact fK (c:=pinAt c s2.heap (cE i) []) (I2.Mx λb hb=>⟨hV b hb,(hpin b hb).2⟩:Inv (pinAt c s2.heap (cE i) []) aa Z ow s2) (eo.place (gJ h2)) (.ref i.x) λs3 I3=>k i s1 s3 I1 ⟨M.at_.keeps λa ha o e=>mM I3.bs ha e,M.dx,M.x,M.sa,M.la,M.ma,M.ne1,M.ne2,M.ne3,M.ne4⟩ (I3.fS I2.bs.pins I2.ok.pv:Inv c aa (upd Z "reader" (.d (.ref i.x))) ow s3)
end
end
section
noncomputable def iA(c:Cx)(i:fH)(T:Str->Bool)(m:Nat)(aM:List Str)(aE:Str->Int):Cx:=
 {c with V:=λa=>c.V a∨a=i.ma,J:=λh=>c.J h/\∃cc,jb c.w i T m cc h/\ii aM aE cc,D:=λa=>c.D a∨a∈cE i}
theorem qf{w:World}{h:Heap}{a:Addr}{D:List (PyData×PyData)}(T:StrTab pg w h a D):∃o es ep,h.get? a=some o/\o.data=.dict es ep:=by
 refine bR T λ_ ar=>ah ar λkvs bd _=>rO bd λo es ep ho _ hd _=>?_
 exact AU o es ep ho hd
section
variable {c:Cx} {n:Nat} {aa:Env} {Z:Ctx} {i:fH} {T:Str->Bool} {m:Nat} {aM:List Str} {aE:Str->Int}
structure o5(c:Cx)(s:Shared)(i:fH):Prop where
 ge:∀b∈cE i,s.heap.objs.size<=b
 ne:∀b∈cE i,b=i.ma∨b≠i.ma
 ne':i.x≠i.ma/\i.dx≠i.ma/\i.sa≠i.ma/\i.la≠i.ma
theorem Made.new{w:World}{s:Shared}{xs:List (List Nat)}{h:Heap}(M:Made w s xs i h):o5 c s i:=by
 refine⟨λb hb=>?_,λb _=>Classical.em _,Ne.symm M.ne1,Ne.symm M.ne2,Ne.symm M.ne3,Ne.symm M.ne4⟩
 simp only[cE,List.mem_cons,List.not_mem_nil,or_false]at hb
 rcases hb with rfl | rfl | rfl | rfl | rfl
 ·exact M.x
 ·exact M.dx
 ·exact M.sa
 ·exact M.la
 ·exact M.ma
theorem IU{w:World}{cc:List (Str×Int)}{h:Heap}(X:jb w i T m cc h):∀b∈cE i,b < h.objs.size:=by
 intro b hb
 refine cR X.dx λes kk h1 _=>fz (qf X.ma) λo _ _ hm _=>nK X.set λo2 es2 ep2 t2 y=>aW X.la λj hl=>?_
 simp only[cE,List.mem_cons,List.not_mem_nil,or_false]at hb
 rcases hb with rfl | rfl | rfl | rfl | rfl
 ·exact Heap.lt_size X.x
 ·exact Heap.lt_size h1
 ·exact Heap.lt_size y.at_
 ·exact Heap.lt_size hl
 ·exact Heap.lt_size hm
theorem Ky{s:Shared}{ow:Ow}(I:Inv c aa Z ow s)(N:o5 c s i)(hp:c.pin=λ_=>none):(iA c i T m aM aE).Ok:=by
 have ok:=I.ok
 have nD:∀b∈cE i,¬c.D b:=λb hb=>gr ok I.bs (N.ge b hb)
 have mm:i.ma∈cE i:=by simp[cE]
 have lt64:64 < s.heap.objs.size:=ok.jin _ _ I.bs.j (ok.vd _ ok.tab)
 refine⟨?_,?_,?_,?_,?_,?_,?_,?_,?_,ok.sn,?_,ok.tp⟩
 ·rintro a (h | rfl)
  ·exact .inl (ok.vd _ h)
  ·exact .inr mm
 ·rintro a (h | rfl) hs
  ·exact ok.vsa _ h hs
  ·have h1:=ok.sn _ hs
   have h3:=N.ge _ mm
   exact absurd h1 (Nat.not_lt.mpr (Nat.le_trans I.bs.size h3))
 ·rintro h a o xs k ⟨j,cc,X,_⟩ (hv | rfl) e hd
  ·exact ok.vseq _ _ _ _ _ j hv e hd
  ·refine fz (qf X.ma) λo' es ep ho ck=>?_
   replace ho:=e▸ho;obtain rfl:=Option.some.inj ho
   replace ck:=hd▸ck;cases ck
 ·rintro h a o ⟨j,cc,X,_⟩ (hv | rfl) e fb
  ·exact ok.vco _ _ _ j hv e fb
  ·refine fz (qf X.ma) λo' es ep ho ck=>?_
   replace ho:=e▸ho;obtain rfl:=Option.some.inj ho
   refine fz fb λvs q t h1 _=>?_
   replace ck:=h1▸ck;cases ck
 ·rintro h a ⟨j,cc,X,_⟩ (hd | hd)
  ·exact ok.jin _ _ j hd
  ·exact IU X a hd
 ·rintro h h' ⟨j,cc,X,M⟩ k1 k2
  exact⟨ok.jk _ _ j (λa ha=>k1 a (.inl ha)) k2,cc,X.keeps λa ha=>k1 a (.inr ha),M⟩
 ·exact .inl ok.tab
 ·rintro h ⟨j,_⟩
  exact ok.tabJ _ j
 ·rintro h h' ⟨j,cc,X,M⟩ k1 tj
  refine⟨ok.tabK _ _ j k1 tj,cc,X.keeps λa ha o=>k1 a o λq=>?_,M⟩
  have:=N.ge a ha
  rw[q]at this
  exact absurd lt64 (Nat.not_lt.mpr this)
 ·intro a o e
  have:c.pin a=some o:=e
  replace this:=hp▸this;exact nS this
theorem Kz{s:Shared}{ow:Ow}(I:Inv c aa Z ow s)(N:o5 c s i):eU (iA c i T m aM aE) i T m aM aE:=by
 have ok:=I.ok
 have nD:∀b∈cE i,¬c.D b:=λb hb=>gr ok I.bs (N.ge b hb)
 refine⟨λh j=>j.2,λh h' cc ⟨j,cc0,X,_⟩ hs hT M=>?_,.inr rfl,⟨?_,?_⟩,.inr (by simp[cE]),.inr (by simp[cE])⟩
 ·refine⟨ok.jk _ _ j (λa ha o e=>(hs.2 a λq=>nD i.ma (by simp[cE]) (q▸ha)).trans e) (λa o fb e=>(hs.2 a λq=>?_).trans e),cc,?_,M⟩
  ·subst q
   refine fz (qf X.ma) λo' es ep ho ck=>?_
   replace ho:=e▸ho;obtain rfl:=Option.some.inj ho
   refine fz fb λvs q t h1 _=>?_
   replace ck:=h1▸ck;cases ck
  ·refine jh N.ne' λn1 n2 n3 n4=>nM X.dx λes kk h1 h2 h3 h4 h5=>⟨(hs.2 _ n1).trans X.x,⟨es,kk,(hs.2 _ n2).trans h1,h2,h3,h4,h5⟩,X.set.keeps λo e=>(hs.2 _ n3).trans e,?_,hT⟩
   exact aW X.la λq e=>⟨q,(hs.2 _ n4).trans e⟩
 ·rintro(h | h)
  ·exact nD i.sa (by simp[cE]) (ok.vd _ h)
  ·exact N.ne'.2.2.1 h
 ·rintro(h | h)
  ·exact nD i.la (by simp[cE]) (ok.vd _ h)
  ·exact N.ne'.2.2.2 h
theorem Inv.ins{s s':Shared}{ow:Ow}{af:Ctx}(I:Inv c aa Z ow s)(N:o5 c s i)(hp:c.pin=λ_=>none)(hh:c.held=[])(I':Inv c aa af ow s'){cc:List (Str×Int)}(X:jb c.w i T m cc s'.heap)(M:ii aM aE cc)(hd:∀y l,find af y=some l->∃d,l=.d d):Inv (iA c i T m aM aE) aa af ow s':=by
 refine ah (id I.frm.ns) λm1 hm1 _=>?_
 have lL:aa.locals < s.heap.objs.size:=by exact fz hm1 λo _ _ ho _=>Heap.lt_size ho
 have no:∀a,a < s.heap.objs.size->a∉cE i:=λa ha hb=>Nat.not_lt.mpr (N.ge a hb) ha
 refine ah I'.frm.ns λm hm hv=>⟨Ky I N hp,I'.oin,⟨⟨I'.bs.kp.1,λa o hv e=>I'.bs.kp.2 a o (λh=>hv (.inl h)) e⟩,I'.bs.pins,I'.bs.sta,⟨I'.bs.j,cc,X,M⟩,I'.bs.os,I'.bs.gens,I'.bs.tk⟩,
  I'.frm.kind,I'.frm.glob,I'.frm.bins,I'.frm.loc,?_,⟨m,hm,λx l e=>?_⟩,I'.frm.cnew,λx cl h1=>?_,I'.frm.cinj,λx a e=>?_,I'.frm.oinj,I'.frm.pL,I'.frm.pC,I'.frm.pO,λp hp=>?_⟩
 ·rintro(h | h)
  ·exact I'.frm.locD h
  ·exact no _ lL h
 ·refine ah (hv x l e) λv h1 h2=>?_
  obtain⟨d,rfl⟩:=hd x l e
  exact aJ v h1 h2
 ·rintro(h | h)
  ·exact I'.frm.cD x cl h1 h
  ·refine no cl ?_ h
   by_cases q:c.h₀.objs.size<=cl
   ·exact cR (I.frm.cnew x cl h1 q) λv o ho _=>Heap.lt_size ho
   ·exact Nat.lt_of_lt_of_le (Nat.lt_of_not_le q) I.bs.size
 ·refine bB (I'.frm.onew x a e) λh1 h2 ar=>aW ar λxs h3=>dQ h1 ?_ ⟨xs,h3⟩
  rintro(h | h)
  ·exact h2 h
  ·refine bB (I.frm.onew x a e) λ_ _ ar=>cY ar λxs' j ho=>?_
   exact no a (Heap.lt_size ho) h
 ·have h2:p∈c.held:=hp
  replace h2:=hh▸h2;cases h2
end
end
theorem bI.to{c c':Cx}{sc:Scope}{aa:Env}(e:bI c sc aa)(h:c'.h₀=c.h₀):bI c' sc aa:=⟨e.sc,λx k=>by exact ab h<|e.cells x k⟩
noncomputable def jR(p:UInt8×UInt8)(ae:List (List Nat))(x:Addr):Ctx:=
 [("reader",.d (.ref x)),("other",.d (pairD p)),("rows",.d (bk ae)),("fronts",.d (bk (df ae))),("figures",.d (bk (kt ae))),("names",.d (hU (kq p ae))),("strange",.d (hU (ib p ae)))]
theorem L6{p:UInt8×UInt8}{ae:List (List Nat)}{x:Addr}:∀y l,find (jR p ae x) y=some l->∃d,l=.d d:=by
 intro y l h
 unfold jR at h
 simp only[find]at h
 repeat' split at h
 all_goals first | cases h;done | (exact aC h<|⟨_,rfl⟩)
theorem IM{p:UInt8×UInt8}{ae:List (List Nat)}{x:Addr}{Z:Ctx}(H:AO p ae (df ae) Z):∀y l,find (jR p ae x) y=some l->find (upd Z "reader" (.d (.ref x))) y=some l:=by
 intro y l h
 unfold jR at h
 simp only[find]at h
 split at h
 ·rename_i e;exact ab e<|aC h fe
 ·split at h
  ·rename_i e;exact rB e<|aC h<|fu H.fother
  ·split at h
   ·rename_i e;exact rB e<|aC h<|fu H.frows
   ·split at h
    ·rename_i e;subst e;exact aC h<|fu H.ffronts
    ·split at h
     ·rename_i e;exact rB e<|aC h<|fu H.ffigs
     ·split at h
      ·rename_i e;exact rB e<|aC h<|fu H.fnames
      ·split at h
       ·rename_i e;exact rB e<|aC h<|fu H.fstrange
       ·exact nS h
structure AM(c:Cx)(s':Shared):Prop where
 kp:∃ma,c.h₀.objs.size<=ma/\Kp (λa=>c.V a∨a=ma) c.h₀ s'.heap
 j:c.J s'.heap
 os:s'.os=c.os
 gens:AllBare s'.gens
theorem Gl{c:Cx}{aa:Env}{A:Around}{s:Shared}{ow:Ow}{ns:List Int}(hz:ns.length<=63)(eo0:bI c (cU (aA 37)) aa)(hp:c.pin=λ_=>none)(hh:c.held=[])(rm:bh 5 A)(I:Inv c aa [("script",.d (.raw (ns.map .int)))] ow s)(E:Value->Shared->Prop):
  wpAny (model pg c.w) A (execs (bu (aA 37)) aa) (λf s'=>f=.ret (.bool true)/\AM c s') E s:=by
 have hs:=EH
 generalize bu (aA 37)=body at hs
 generalize hsc:cU (aA 37)=sc at hs eo0
 have hf:sc.kind=.function:=by refine rB hsc ?_;rfl
 have shq:=(zt _ _).2 hs;clear hs
 obtain @⟨a0,a1,a2,a3,a4,a5,a6,a7,a8,a9,b,r,t,d,e,hs⟩:=shq
 simp only[Bool.and_eq_true]at hs
 obtain⟨⟨⟨⟨⟨⟨q0,q1⟩,q2⟩,q3⟩,q4⟩,q5⟩,q6⟩:=hs
 refine JI eo0 q0 (by rfl) (by rw[List.length_map];lia) rm I λs1 I1=>?_
 rw[<- List.map_take]at I1
 have eo:bI (fW c) sc aa:=eo0.to rfl
 generalize hdr:ns.take 3=drawn at I1
 have hd3:drawn.length<=3:=by exact rB hdr<|ab List.length_take<|Nat.min_le_left _ _
 have R:=wA hd3
 have hpo:=HU drawn
 refine ah (K6 drawn hd3 (Z:=upd [("script",.d (.raw (ns.map .int)))] "drawn" (.d (.list (drawn.map .int)))) fe) λaf hps H=>?_
 generalize gK drawn=ae at H R
 generalize jD drawn=p at H hpo
 have gF:cM (bW ae)=df ae:=rfl
 refine wK (c:=fW c) (l1:=[a1,a2,a3,a4,a5,a6,a7,a8,a9]) (l2:=[b,r,t,d,e]) (kX 2 lm 0 t9 sc _ aa (fW c) _ _ (Lg _ trivial) gB hf eo q1 hps) (rm.less (Nat.le_add_left _ _)) I1 λs2 f9 I2=>D3 (c:=fW c) trivial eo q2 hpo R H.frows H.fother rm I2 λi s0 s3 I0 M I3=>?_
 have N:o5 (fW c) s0 i:=M.new
 have I4:=I0.ins (af:=jR p ae i.x) (aM:=eH p ae) (aE:=dM p ae) N hp hh (I3.sub (IM H)) M.at_ Ko L6
 have X:eU (iA (fW c) i (fF p ae) (modsOf p ae).length (eH p ae) (dM p ae)) i (fF p ae) (modsOf p ae).length (eH p ae) (dM p ae):=Kz I0 N
 have hma:c.h₀.objs.size<=i.ma:=Nat.le_trans I0.bs.size M.ma
 have hkp:∀h',Kp (iA (fW c) i (fF p ae) (modsOf p ae).length (eH p ae) (dM p ae)).V c.h₀ h'->Kp (λa=>c.V a∨a=i.ma) c.h₀ h':=λ_ h=>h
 have hj:∀h',(iA (fW c) i (fF p ae) (modsOf p ae).length (eH p ae) (dM p ae)).J h'->c.J h':=λ_ h=>h.1
 have hos:(iA (fW c) i (fF p ae) (modsOf p ae).length (eH p ae) (dM p ae)).os=c.os:=rfl
 have htz:(iA (fW c) i (fF p ae) (modsOf p ae).length (eH p ae) (dM p ae)).tz:=trivial
 have hw:(iA (fW c) i (fF p ae) (modsOf p ae).length (eH p ae) (dM p ae)).w=c.w:=rfl
 have hh0:(iA (fW c) i (fF p ae) (modsOf p ae).length (eH p ae) (dM p ae)).h₀=c.h₀:=rfl
 change Inv (iA (fW c) i (fF p ae) (modsOf p ae).length (eH p ae) (dM p ae)) aa (jR p ae i.x) f9 s3 at I4
 generalize iA (fW c) i (fF p ae) (modsOf p ae).length (eH p ae) (dM p ae)=c1 at I4 X hkp hj hos htz hw hh0
 show wpAny (model pg c.w) A _ _ _ _
 refine rB hw ?_
 have eo1:bI c1 sc aa:=eo0.to hh0
 refine bB (y9 (p:=p) R) λl1 l2 l3=>?_
 have T1:bY c1 5 aa (jR p ae i.x) r λo=>o=.next (upd (jR p ae i.x) "read" (.d (.list ((df ae).map λf=>cO (readOf p ae f))))):=by
  refine CS hf eo1 q3 ⟨_,_,_,_,_,_,rfl⟩ λe' he'=>E4 (K:=K0) (df ae) aj (λf=>cO (readOf p ae f)) (KR p ae) sc e' aa c1 _ (q7 5 c1 htz) eo1.c he' (dT (v_var rfl)) (cs:=[("rows",bk ae),("other",pairD p)]) (by rfl) (Nat.le_trans ‹_› (Nat.le_add_left _ _)) (λf e9=>Mp hpo R (kE.mp e9) c1 htz) λf e9=>?_
  exact JB rfl rfl rfl
 refine td T1 rm I4 λs5 ow5 I5=>?_
 have hrd:(df ae).map (λf=>cO (readOf p ae f))=(iH p ae).map cO:=by unfold iH;rw[List.map_map];rfl
 rw[hrd]at I5
 have hread:∀x∈iH p ae,x.length<=1000:=λx hx=>by
  refine ah (List.mem_map.mp hx) λf e9 am=>rB am ?_
  unfold readOf
  rw[List.length_map,(th (p:=p) (ae:=ae) (jW R (kE.mp e9)).2)];exact Nat.le_add_left _ _
 have hnl:(kq p ae).length<=49:=by unfold kq;exact Nat.le_trans (Nat.le_of_eq (List.length_map _)) ‹_›
 have T2:=uo 2 (mF i (fF p ae) (eH p ae) (dM p ae)) 0 (.assign "told" qP) sc t aa c1 (upd (jR p ae i.x) "read" (.d (.list ((iH p ae).map cO)))) _ (Lf X (Ld hpo R) htz) gB hf eo1 q4 (fM (fB (JA (names:=kq p ae) (gk:=ib p ae) (read:=iH p ae) (by lia) (by unfold iH;rw[List.length_map];lia) hread (fu rfl) fe (fu rfl) (fu rfl) (Hc hpo R)) rfl))
 refine td T2 (rm.less (Nat.le_add_left _ _)) I5 λs6 ow6 I6=>?_
 rw[(Fq hpo R)]at I6
 have T3:=uo 1 vz 0 (.assign "due" rC) sc d aa c1 (upd (upd (jR p ae i.x) "read" (.d (.list ((iH p ae).map cO)))) "told" (.d (.list (((kt ae).map (k7 ae (df ae))++(ib p ae).map λ_=>(0,[])).map tD)))) _ (Lh c1 htz) gB hf eo1 q5 (fM (fB (Lj (figs:=kt ae) (ae:=ae) (aR:=df ae) (gk:=ib p ae) (due:=k7 ae (df ae)) (by lia) (by have:=R.len;exact Nat.le_trans ‹_› (Nat.le_add_left _ _)) (Nat.le_trans ‹_› (Nat.le_add_left _ _)) (λg hg=>(o0 R hg).1.1) (λg hg=>(R.ok g hg).1) (λf e9=>(jW R (kE.mp e9)).1.1) (fu (fu rfl)) (fu (fu rfl)) (fu (fu rfl)) (fu (fu rfl)) λg hg=>K1 R (o0 R hg).1 (o0 R hg).2) rfl))
 refine td T3 (rm.less (Nat.succ_pos _)) I6 λs7 ow7 I7=>?_
 have T4:∀G,find G "told"=some (.d (.list (((kt ae).map (k7 ae (df ae))++(ib p ae).map λ_=>(0,[])).map tD)))->find G "due"=some (.d (.list (((kt ae).map (k7 ae (df ae))++(ib p ae).map λ_=>(0,[])).map tD)))->bS c1 5 aa G [e] λo=>o=.ret (.bool true):=λG f1 f2=>
  kH (Hz (sc:=sc) htz eo1 q6 (by refine ab List.length_append ?_;rw[List.length_map,List.length_map];lia) f1 f2)
 refine(T4 _ (fu fe) fe).run A s7 _ E ow7 rm I7 λf s8 o ho cb=>?_
 subst ho
 cases f<;>first | exact cb.elim | skip
 refine bR cb λb8 rv=>ag.l9 rv<|⟨rfl,⟨i.ma,hma,hkp _ (hh0▸b8.kp)⟩,hj _ b8.j,b8.os.trans hos,b8.gens⟩
theorem jI:cV 224 (fD "law" "law" (aA 37) .none .none eM 223) (bu (aA 37)):=
 ⟨λP=>⟨_,rfl,rfl⟩,rfl,rfl,⟨223,rfl,by decide+kernel⟩,rfl,rfl,rfl,rfl,rfl⟩
theorem wZ{h:Heap}{O:Addr->Prop}:∀{vs:List Value} {ns:List Int},IntsAre vs ns->aq h O vs (ns.map .int)
 | _,_,.nil=>.nil
 | _,_,.cons n t r=>.cons (.int n t) (wZ r)
theorem Ly{w:World}{h:Heap}(x:gh w h):∀a∈Sa,a < h.objs.size:=by
 intro a ha
 rcases List.mem_append.mp ha with ha | ha
 ·rcases List.mem_append.mp ha with ha | ha
  ·simp only[List.mem_cons,List.not_mem_nil,or_false]at ha
   rcases ha with rfl | rfl | rfl
   ·obtain⟨mb,⟨o,_,_,e,_⟩,_⟩:=x.b;exact Heap.lt_size e
   ·obtain⟨mc,⟨o,_,_,e,_⟩,_⟩:=x.nodigits;exact Heap.lt_size e
   ·obtain⟨mg,⟨o,_,_,e,_⟩,_⟩:=x.g;exact Heap.lt_size e
  ·have:∀P:Params,a∈(K P).map (·.1):=λP=>qa P▸ha
   refine ah (List.mem_map.mp (this w.params)) λp hp e=>?_
   have nd:∀P:Params,((K P).map (·.1)).Nodup:=λP=>by refine rB (qa P) ?_;decide+kernel
   obtain⟨o,ho⟩:∃o,(K w.params).lookup a=some o:=by
    have key:∀l:Frag,p∈l->∃o,l.lookup a=some o:=by
     intro l
     induction l with
     | nil=>intro h;cases h
     | cons q r ih=>
      intro h
      refine ab List.lookup_cons ?_
      by_cases hq:a==q.1
      ·exact ab hq<|⟨_,rfl⟩
      ·skip
       refine ab (by simpa using hq:(a==q.1)=false) ?_
       rcases List.mem_cons.mp h with rfl | h
       ·subst e;simp at hq
       ·exact ih h
    exact key _ hp
   exact Heap.lt_size (x.k _ _ ho)
 ·refine ah (List.mem_map.mp ha) λp hp am=>rB am ?_
  have:=x.cd p hp
  unfold iy at this
  exact bE this λo ho _=>Heap.lt_size ho
theorem Fw{ps:Array Value}(t2:TriplesOk ps.toList):¬jf (tabObj ps):=by
 rintro⟨vs,q,t,e3,e4⟩
 cases e3
 match hps:ps.toList,t2 with
 | [],_=>
  have:ps=#[]:=by simpa using hps
  subst this;exact nS e4
 | .int _ _::.int _ _::_::ao,_=>
  replace e4:=hps▸(by simp:ps[1]? =ps.toList[1]?)▸e4;cases e4
noncomputable def nW(w:World)(s:Shared):Cx:={w:=w,V:=λa=>a=64,J:=kv,D:=λa=>a=64,O:=λ_=>False,h₀:=s.heap,os:=s.os,pin:=λ_=>none,held:=[],t₀:=s.toks,tz:=False}
theorem K3{w:World}{s:Shared}(x:gh w s.heap):(nW w s).Ok where
 vd:=λ_ h=>h
 vsa:=by rintro a rfl;decide+kernel
 vseq:=by
  rintro h a o xs k ⟨ps,t,_⟩ rfl e hd
  replace e:=t▸e;obtain rfl:=Option.some.inj e;cases hd
 vco:=by
  rintro h a o ⟨ps,t,t2,_⟩ rfl e
  replace e:=t▸e;exact aC e<|Fw t2
 jin:=by
  rintro h a ⟨ps,t,_⟩ rfl
  exact Heap.lt_size t
 jk:=λh h' j k1 k2=>j.keeps (k1 64 rfl) k2
 tab:=rfl
 tabJ:=λ_ j=>j
 tabK:=λ_ _ _ _ t=>t
 sn:=Ly x
 pv:=λ_ _ h=>nomatch h
 tp:=λh=>h.elim
theorem LX(w:World){h:Heap}(x:gh w h):isCodeTable h 64:=by
 obtain⟨o,ho,h1,vs,h2,h3⟩:∃o,(K w.params).lookup 68=some o/\o.cls=.type "code"/\∃vs,o.data=.fields vs/\vs[11]? =some (.ref 64):=⟨_,rfl,rfl,_,rfl,rfl⟩
 exact M1 68 o vs (x.k _ _ ho) h1 h2 h3
theorem J8{w:World}{s s':Shared}(x:gh w s.heap)(h64:s.heap.get? 64=some {cls:=.none,data:=.fields #[]})(L:AM (nW w s) s'):OldK s.heap s'.heap:=by
 refine ah L.kp λma hma k=>ah L.j λps t _=>⟨λb o e=>?_,λb o e=>?_⟩
 ·by_cases hb:b=64
  ·subst hb
   replace e:=h64▸e;exact aC e<| .inr (.inl ⟨LX w x,rfl,#[],ps,rfl,by refine ab t ?_;simp⟩)
  ·refine .inl (k.2 b o ?_ e)
   rintro(h | h)
   ·exact hb h
   ·subst h
    exact absurd (Heap.lt_size e) (Nat.not_lt.mpr hma)
 ·by_cases hb:b=64
  ·subst hb;exact⟨_,t⟩
  ·refine⟨o,k.2 b o ?_ e⟩
   rintro(h | h)
   ·exact hb h
   ·subst h
    exact absurd (Heap.lt_size e) (Nat.not_lt.mpr hma)
theorem Gk(w:World)(s:Shared)(l:Addr)(vs:List Value)(ns:List Int)(st:mu w s.heap)(h64:s.heap.get? 64=some {cls:=.none,data:=.fields #[]})(hg:s.gens=#[])
  (hl:s.heap.IsList l vs.toArray) (hi:IntsAre vs ns) (hz:ns.length<=63):
  wpAny (model pg w) callerA (PySem.call (.ref 224) [.ref l]) (λv s'=>v=.bool true/\OldK s.heap s'.heap/\s'.os=s.os/\AllBare s'.gens) (λ_ _=>False) s:=by
 have x:=st.sta
 have j0:kv s.heap:=⟨#[],h64,trivial,(λ_ h=>nomatch h),λ_ h=>nomatch h⟩
 have rs:aq s.heap (nW w s).O [.ref l] [.raw (ns.map .int)]:=.cons (.raw id hl (wZ hi)) .nil
 refine ah (jI.at_ w.params) λo ho hd=>ah jI.code λcd gg eJ=>wpAny_call<|call_cells (binds:=(["script"].map Str.ofString).zip [.ref l]) (Nat.le_add_left _ _) (x.k _ _ ho) hd x.nolimit (gg▸codeRec_of (x.cd _ eJ)) jI.body (md "script" (by intro _;rfl) [.ref l] rfl) jI.clo ?_ jI.co jI.gen jI.kind ?_
 ·intro y hy
  simp only[List.map_cons,List.map_nil,List.zip_cons_cons,List.zip_nil_right,List.mem_singleton]at hy
  refine ab hy<| .inl ?_
  show(cU (aA 37)).names.lookup (Str.ofString "script")=some .local
  decide+kernel
 ·intro aD eC ic
  obtain⟨I,eo⟩:=qj (c:=nW w s) (names:=["script"]) (K3 x) rfl eC rfl (λ_ h=>h.elim) (⟨.refl _ _,(λ_ _ h=>nomatch h),x,j0,rfl,by show AllBare s.gens;exact ab hg<| λ_ h=>by simp at h,Nat.le_refl _⟩:Bs (nW w s) s) rs rfl (of_decide_eq_true rfl) jI.glob jI.bins jI.kind (by
   intro y hy
   rw[List.mem_singleton]at hy
   exact ab hy<| .inl (by decide+kernel)) ic
  have rm:bh 5 (callerA.deeper (callEnvC (fD "law" "law" (aA 37) .none .none eM 223) s.heap.objs.size 224)):=⟨rfl,by refine(?_:callerA.depth+1+10 * 5<=900);exact Nat.le_add_left _ _,by refine(?_:callerA.units+3+100 * 5<=9000);exact Nat.le_add_left _ _⟩
  refine wpAny_mono (Gl (c:=nW w s) hz eo rfl rfl rm I (λ_ _=>False)) ?_ λ_ _ h=>h.elim
  rintro f s' ⟨rfl,L⟩
  exact lj rfl (J8 x h64 L) L.os L.gens
theorem NC:rw_kt0023_01.Holds:=Dq λw s l vs ns st h64 hg hl hi hz _=>Gk w s l vs ns st h64 hg hl hi hz
end Mine
theorem PySem.Challenge.cw_kt0023_01_holds : PySem.Challenge.rw_kt0023_01.Holds :=
 Mine.NC
